/-
  THE PLAIN LAW of 'unquote': what a quoted text reads as; no Go in sight.
-/
import Derived.Laws.Strings
namespace Go.Proofs.Qxb6603692a

/-- What stands between the quotes, read byte by byte: none where it is no such text. -/
def unq : List UInt8 → Option (List UInt8)
  | [] => some []
  | [c] => if c = 92 then none else if c = 34 ∨ c < 32 ∨ 126 < c then none else some [c]
  | c :: d :: r => if c = 92 then (if d = 34 ∨ d = 92 then (unq r).map (d :: ·) else none)
      else if c = 34 ∨ c < 32 ∨ 126 < c then none else (unq (d :: r)).map (c :: ·)

theorem unq_plain (c : UInt8) (r : List UInt8) (h : ¬ c = 92) (h2 : ¬ (c = 34 ∨ c < 32 ∨ 126 < c)) : unq (c :: r) = (unq r).map (c :: ·) := by
  cases r with
  | nil => simp [unq, h, h2]
  | cons d r => simp [unq, h, h2]

theorem unq_bad (c : UInt8) (r : List UInt8) (h : ¬ c = 92) (h2 : c = 34 ∨ c < 32 ∨ 126 < c) : unq (c :: r) = none := by
  cases r with
  | nil => simp [unq, h, h2]
  | cons d r => simp [unq, h, h2]

theorem unq_esc (d : UInt8) (r : List UInt8) (h : d = 34 ∨ d = 92) : unq (92 :: d :: r) = (unq r).map (d :: ·) := by
  simp [unq, h]

theorem unq_esc_bad (d : UInt8) (r : List UInt8) (h : ¬ (d = 34 ∨ d = 92)) : unq (92 :: d :: r) = none := by
  simp [unq, h]

theorem unq_esc_end : unq [92] = none := by simp [unq]

/-- An even run of backslashes. -/
theorem unq_even (m : Nat) (r : List UInt8) : unq (List.replicate (2 * m) 92 ++ r) = (unq r).map (List.replicate m 92 ++ ·) := by
  induction m with
  | zero => simp
  | succ m ih =>
    have e : List.replicate (2 * (m + 1)) (92 : UInt8) ++ r = 92 :: 92 :: (List.replicate (2 * m) 92 ++ r) := by
      rw [show 2 * (m + 1) = (2 * m + 1) + 1 from by omega, List.replicate_succ, List.replicate_succ]; rfl
    rw [e, unq_esc 92 _ (.inr rfl), ih, Option.map_map]
    congr 1

/-- An odd run of backslashes with nothing behind it. -/
theorem unq_odd_end (m : Nat) : unq (List.replicate (2 * m + 1) 92) = none := by
  have e : List.replicate (2 * m + 1) (92 : UInt8) = List.replicate (2 * m) 92 ++ [92] := by rw [List.replicate_succ']
  rw [e, unq_even, unq_esc_end]; rfl

/-- An odd run of backslashes and a byte. -/
theorem unq_odd_quote (m : Nat) (r : List UInt8) : unq (List.replicate (2 * m + 1) 92 ++ 34 :: r) = (unq r).map ((List.replicate m 92 ++ [34]) ++ ·) := by
  have e : List.replicate (2 * m + 1) (92 : UInt8) ++ 34 :: r = List.replicate (2 * m) 92 ++ (92 :: 34 :: r) := by rw [List.replicate_succ']; simp
  rw [e, unq_even, unq_esc 34 _ (.inl rfl), Option.map_map]
  congr 1
  funext x
  simp

theorem unq_odd_other (m : Nat) (d : UInt8) (r : List UInt8) (h : ¬ (d = 34 ∨ d = 92)) : unq (List.replicate (2 * m + 1) 92 ++ d :: r) = none := by
  have e : List.replicate (2 * m + 1) (92 : UInt8) ++ d :: r = List.replicate (2 * m) 92 ++ (92 :: d :: r) := by rw [List.replicate_succ']; simp
  rw [e, unq_even, unq_esc_bad d _ h]; rfl

theorem unq_even_quote (m : Nat) (r : List UInt8) : unq (List.replicate (2 * m) 92 ++ 34 :: r) = none := by
  rw [unq_even, unq_bad 34 r (by decide) (.inl rfl)]; rfl

/-- The bytes from i on, the last one left out. -/
def rest (s : ByteArray) (i : Nat) : List UInt8 := (s.data.toList.drop i).take (s.size - 1 - i)

theorem rest_cons (s : ByteArray) (i : Nat) (h : i + 1 < s.size) : rest s i = s[i] :: rest s (i + 1) := by
  unfold rest
  have hl : i < s.data.toList.length := by simpa using (by omega : i < s.size)
  rw [List.drop_eq_getElem_cons hl, show s.size - 1 - i = (s.size - 1 - (i + 1)) + 1 from by omega, List.take_succ_cons]
  rfl

theorem rest_end (s : ByteArray) (i : Nat) (h : s.size ≤ i + 1) : rest s i = [] := by
  unfold rest
  rw [show s.size - 1 - i = 0 from by omega, List.take_zero]

/-- WHAT A STRING READS AS: none where it is not quoted, or what stands between the quotes is no such text. -/
def uq (s : ByteArray) : Option (List UInt8) :=
  if h : 2 ≤ s.size then (if s[0] = 34 ∧ s[s.size - 1] = 34 then unq (rest s 1) else none) else none

theorem uq_short (s : ByteArray) (h : ¬ 2 ≤ s.size) : uq s = none := by simp [uq, h]
theorem uq_open (s : ByteArray) (h : 2 ≤ s.size) (h0 : ¬ s[0] = 34) : uq s = none := by simp [uq, h, h0]
theorem uq_shut (s : ByteArray) (h : 2 ≤ s.size) (h0 : ¬ s[s.size - 1] = 34) : uq s = none := by simp [uq, h, h0]
theorem uq_in (s : ByteArray) (h : 2 ≤ s.size) (h0 : s[0] = 34) (h1 : s[s.size - 1] = 34) : uq s = unq (rest s 1) := by simp [uq, h, h0, h1]

/-- A run of backslashes. -/
theorem rest_run (s : ByteArray) (i : Nat) : ∀ (k : Nat), i + k + 1 ≤ s.size → (∀ j (h : j < s.size), i ≤ j → j < i + k → s[j] = 92) → rest s i = List.replicate k 92 ++ rest s (i + k) := by
  intro k
  induction k with
  | zero => intro _ _; simp
  | succ k ih =>
    intro h1 h2
    rw [ih (by omega) (fun j h hj hk => h2 j h hj (by omega)), rest_cons s (i + k) (by omega), h2 (i + k) (by omega) (by omega) (by omega), List.replicate_succ']
    simp [Nat.add_assoc]

theorem u8_int (c : UInt8) (k : Nat) (hk : k < 256) : ((c.toNat : Int) = (k : Int)) ↔ c = UInt8.ofNat k := by
  constructor
  · intro h
    apply UInt8.toNat_inj.1
    simp; omega
  · rintro rfl; simp; omega

/-! ### one round of the byte-by-byte reading: 'acc' has been read, at k stands the next byte -/
/-- What is still to be read, behind what has been. -/
def Reads (o : Option (List UInt8)) (acc : List UInt8) (s : ByteArray) (k : Nat) : Prop := o = (unq (rest s k)).map (acc ++ ·)

theorem Reads.plain {o : Option (List UInt8)} {acc : List UInt8} {s : ByteArray} {k : Nat} (h : Reads o acc s k) (hk : k + 1 < s.size) (h1 : ¬ (s[k].toNat : Int) = 92) (h2 : ¬ (s[k].toNat : Int) = 34) (h3 : 32 ≤ (s[k].toNat : Int)) (h4 : (s[k].toNat : Int) ≤ 126) : Reads o (acc ++ [s[k]]) s (k + 1) := by
  unfold Reads at *
  rw [h, rest_cons s k hk, unq_plain, Option.map_map]
  · congr 1; funext x; simp
  · intro e; rw [e] at h1; exact h1 rfl
  · rintro (e | e | e)
    · rw [e] at h2; exact h2 rfl
    · have := UInt8.lt_iff_toNat_lt.1 e; simp at this; omega
    · have := UInt8.lt_iff_toNat_lt.1 e; simp at this; omega

theorem Reads.bad {o : Option (List UInt8)} {acc : List UInt8} {s : ByteArray} {k : Nat} (h : Reads o acc s k) (hk : k + 1 < s.size) (h1 : ¬ (s[k].toNat : Int) = 92) (h2 : (s[k].toNat : Int) = 34 ∨ (s[k].toNat : Int) < 32 ∨ 126 < (s[k].toNat : Int)) : o = none := by
  unfold Reads at *
  rw [h, rest_cons s k hk, unq_bad]
  · rfl
  · intro e; rw [e] at h1; exact h1 rfl
  · rcases h2 with e | e | e
    · exact .inl ((u8_int _ 34 (by decide)).1 e)
    · exact .inr (.inl (UInt8.lt_iff_toNat_lt.2 (by simp; omega)))
    · exact .inr (.inr (UInt8.lt_iff_toNat_lt.2 (by simp; omega)))

theorem Reads.esc {o : Option (List UInt8)} {acc : List UInt8} {s : ByteArray} {k : Nat} (h : Reads o acc s k) (hk : k + 2 < s.size) (h1 : (s[k].toNat : Int) = 92) (h2 : (s[k + 1].toNat : Int) = 34 ∨ (s[k + 1].toNat : Int) = 92) : Reads o (acc ++ [s[k + 1]]) s (k + 2) := by
  unfold Reads at *
  have e1 : s[k] = 92 := (u8_int _ 92 (by decide)).1 h1
  rw [h, rest_cons s k (by omega), rest_cons s (k + 1) hk, e1, unq_esc, Option.map_map]
  · congr 1; funext x; simp
  · rcases h2 with e | e
    · exact .inl ((u8_int _ 34 (by decide)).1 e)
    · exact .inr ((u8_int _ 92 (by decide)).1 e)

theorem Reads.esc_bad {o : Option (List UInt8)} {acc : List UInt8} {s : ByteArray} {k : Nat} (h : Reads o acc s k) (hk : k + 2 < s.size) (h1 : (s[k].toNat : Int) = 92) (h2 : ¬ (s[k + 1].toNat : Int) = 34) (h3 : ¬ (s[k + 1].toNat : Int) = 92) : o = none := by
  unfold Reads at *
  have e1 : s[k] = 92 := (u8_int _ 92 (by decide)).1 h1
  rw [h, rest_cons s k (by omega), rest_cons s (k + 1) hk, e1, unq_esc_bad]
  · rfl
  · rintro (e | e)
    · exact h2 ((u8_int _ 34 (by decide)).2 e)
    · exact h3 ((u8_int _ 92 (by decide)).2 e)

theorem Reads.esc_end {o : Option (List UInt8)} {acc : List UInt8} {s : ByteArray} {k : Nat} (h : Reads o acc s k) (hk : k + 1 < s.size) (he : s.size ≤ k + 2) (h1 : (s[k].toNat : Int) = 92) : o = none := by
  unfold Reads at *
  have e1 : s[k] = 92 := (u8_int _ 92 (by decide)).1 h1
  rw [h, rest_cons s k hk, rest_end s (k + 1) (by omega), e1, unq_esc_end]
  rfl

theorem Reads.done {o : Option (List UInt8)} {acc : List UInt8} {s : ByteArray} {k : Nat} (h : Reads o acc s k) (hk : s.size ≤ k + 1) : o = some acc := by
  unfold Reads at *
  rw [h, rest_end s k hk]
  simp [unq]

/-- A run of r backslashes at k. -/
theorem Reads.run {o : Option (List UInt8)} {acc : List UInt8} {s : ByteArray} {k r : Nat} (h : Reads o acc s k) (hr : k + r + 1 ≤ s.size) (A : ∀ j (h : j < s.size), k ≤ j → j < k + r → s[j] = 92) : o = (unq (List.replicate r 92 ++ rest s (k + r))).map (acc ++ ·) := by
  unfold Reads at h
  rw [h, rest_run s k r hr A]

theorem Reads.run_even {o : Option (List UInt8)} {acc : List UInt8} {s : ByteArray} {k r m : Nat} (h : Reads o acc s k) (hr : k + r + 1 ≤ s.size) (A : ∀ j (h : j < s.size), k ≤ j → j < k + r → s[j] = 92) (hm : r = 2 * m) : Reads o (acc ++ List.replicate m 92) s (k + r) := by
  have e := h.run hr A
  unfold Reads
  rw [e, hm, unq_even, Option.map_map]
  congr 1; funext x; simp

theorem Reads.run_even_quote {o : Option (List UInt8)} {acc : List UInt8} {s : ByteArray} {k r m : Nat} (h : Reads o acc s k) (hr : k + r + 1 < s.size) (A : ∀ j (h : j < s.size), k ≤ j → j < k + r → s[j] = 92) (hm : r = 2 * m) (hq : (s[k + r].toNat : Int) = 34) : o = none := by
  have e := h.run (by omega) A
  have e1 : s[k + r] = 34 := (u8_int _ 34 (by decide)).1 hq
  rw [e, rest_cons s (k + r) hr, e1, hm, unq_even_quote]
  rfl

theorem Reads.run_odd_quote {o : Option (List UInt8)} {acc : List UInt8} {s : ByteArray} {k r m : Nat} (h : Reads o acc s k) (hr : k + r + 1 < s.size) (A : ∀ j (h : j < s.size), k ≤ j → j < k + r → s[j] = 92) (hm : r = 2 * m + 1) (hq : (s[k + r].toNat : Int) = 34) : Reads o (acc ++ List.replicate m 92 ++ [34]) s (k + r + 1) := by
  have e := h.run (by omega) A
  have e1 : s[k + r] = 34 := (u8_int _ 34 (by decide)).1 hq
  unfold Reads
  rw [e, rest_cons s (k + r) hr, e1, show List.replicate r (92 : UInt8) = List.replicate (2 * m + 1) 92 from by rw [hm], unq_odd_quote, Option.map_map]
  congr 1; funext x; simp

theorem Reads.run_odd_end {o : Option (List UInt8)} {acc : List UInt8} {s : ByteArray} {k r m : Nat} (h : Reads o acc s k) (hr : k + r + 1 ≤ s.size) (hr2 : s.size ≤ k + r + 1) (A : ∀ j (h : j < s.size), k ≤ j → j < k + r → s[j] = 92) (hm : r = 2 * m + 1) : o = none := by
  have e := h.run hr A
  rw [e, rest_end s (k + r) hr2, List.append_nil, hm, unq_odd_end]
  rfl

theorem Reads.run_odd_other {o : Option (List UInt8)} {acc : List UInt8} {s : ByteArray} {k r m : Nat} (h : Reads o acc s k) (hr : k + r + 1 < s.size) (A : ∀ j (h : j < s.size), k ≤ j → j < k + r → s[j] = 92) (hm : r = 2 * m + 1) (hq : ¬ (s[k + r].toNat : Int) = 34) (hq2 : ¬ (s[k + r].toNat : Int) = 92) : o = none := by
  have e := h.run (by omega) A
  rw [e, rest_cons s (k + r) hr, show List.replicate r (92 : UInt8) = List.replicate (2 * m + 1) 92 from by rw [hm], unq_odd_other]
  · rfl
  · rintro (e | e)
    · exact hq ((u8_int _ 34 (by decide)).2 e)
    · exact hq2 ((u8_int _ 92 (by decide)).2 e)

/-- The run goes on. -/
theorem run_on {s : ByteArray} {k r : Nat} (A : ∀ j (h : j < s.size), k ≤ j → j < k + r → s[j] = 92) (hr : k + r < s.size) (hq : (s[k + r].toNat : Int) = 92) : ∀ j (h : j < s.size), k ≤ j → j < k + (r + 1) → s[j] = 92 := by
  intro j h h1 h2
  by_cases e : j = k + r
  · subst e; exact (u8_int _ 92 (by decide)).1 hq
  · exact A j h h1 (by omega)

theorem Reads.start (s : ByteArray) : Reads (unq (rest s 1)) [] s 1 := by simp [Reads]

end Go.Proofs.Qxb6603692a
