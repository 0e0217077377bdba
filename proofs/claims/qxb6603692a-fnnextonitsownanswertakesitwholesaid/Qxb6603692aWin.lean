/-
  A VALUE, TAKEN OUT OF ITS TEXT, IS A TEXT OF ITS OWN: no Go in sight.
-/
import Derived.Test.Qxb6603692aJson
namespace Go.Proofs.Qxb6603692a

/-- The bytes from z on. -/
def shift (g : Nat → Int) (z : Nat) : Nat → Int := fun p => g (z + p)

theorem Sk.win {g : Nat → Int} {n z m i j : Nat} (h : Sk g n (z + i) (z + j)) (hj : j ≤ m) (hm : z + m ≤ n) : Sk (shift g z) m i j := by
  have := h.le
  exact ⟨by omega, hj, fun p h1 h2 => h.ws (z + p) (by omega) (by omega), fun h1 => h.stop (by omega)⟩

theorem strF_win {g : Nat → Int} {n z m : Nat} : ∀ (f p e : Nat), strF g n f (z + p) = some e → e ≤ z + m → strF (shift g z) m f p = some (e - z) := by
  intro f
  induction f with
  | zero => intro p e h; simp [strF] at h
  | succ f ih =>
    intro p e h he
    have hlt := strF_lt _ _ _ h
    have hpm : p < m := by omega
    unfold strF at h ⊢
    rw [if_pos hlt.1] at h
    rw [if_pos hpm]
    show (if g (z + p) = 34 then _ else _) = _
    by_cases h34 : g (z + p) = 34
    · rw [if_pos h34] at h ⊢
      cases h
      simp; omega
    · rw [if_neg h34] at h ⊢
      show (if g (z + p) = 92 then _ else _) = _
      by_cases h92 : g (z + p) = 92
      · rw [if_pos h92] at h ⊢
        exact ih (p + 2) e (by rw [← Nat.add_assoc]; exact h) he
      · rw [if_neg h92] at h ⊢
        exact ih (p + 1) e (by rw [← Nat.add_assoc]; exact h) he

theorem StrTo.win {g : Nat → Int} {n z m p e : Nat} (h : StrTo g n (z + p) (z + e)) (he : e ≤ m) : StrTo (shift g z) m p e := by
  obtain ⟨f, h⟩ := h
  have := strF_win (m := m) f p (z + e) h (by omega)
  rw [show z + e - z = e from by omega] at this
  exact ⟨f, this⟩

theorem Scal.win {g : Nat → Int} {n z m s e : Nat} (h : Scal g n (z + s) (z + e)) (he : e ≤ m) : Scal (shift g z) m s e :=
  ⟨by have := h.lt; omega, he, fun p h1 h2 => h.no (z + p) (by omega) (by omega)⟩

theorem Mem.win {V V' : Nat → Nat → Prop} {g : Nat → Int} {n z m k a b : Nat} (hm : z + m ≤ n) (hV : ∀ a b, b ≤ m → V (z + a) (z + b) → V' a b) (hb : b ≤ m) (hab : a < b) (h : Mem V g n (z + k) (z + a) (z + b)) : Mem V' (shift g z) m k a b := by
  obtain ⟨kb, c, h1, h2, h3, h4, h5, h6, h7, h8⟩ := h
  have l1 := h3.lt; have l2 := h4.le; have l3 := h7.le
  obtain ⟨kb', rfl⟩ : ∃ x, kb = z + x := ⟨kb - z, by omega⟩
  obtain ⟨c', rfl⟩ : ∃ x, c = z + x := ⟨c - z, by omega⟩
  exact ⟨kb', c', by omega, h2, StrTo.win (by rw [← Nat.add_assoc]; exact h3) (by omega), h4.win (by omega) hm, by omega, h6, Sk.win (n := n) (by rw [← Nat.add_assoc]; exact h7) (by omega) hm, hV a b hb h8⟩

theorem arrT_win {V V' : Nat → Nat → Prop} {g : Nat → Int} {n z m : Nat} (hm : z + m ≤ n) (hlt : ∀ a b, V a b → a < b ∧ b ≤ n) (hV : ∀ a b, b ≤ m → V (z + a) (z + b) → V' a b) :
    ∀ (l : List (Nat × Nat)) (p e : Nat), e ≤ m → ArrT V g n l (z + p) (z + e) → ∃ l', ArrT V' (shift g z) m l' p e := by
  intro l
  induction l with
  | nil =>
    rintro p e he ⟨q, h1, h2, h3, h4⟩
    have l1 := h1.le
    obtain ⟨q', rfl⟩ : ∃ x, q = z + x := ⟨q - z, by omega⟩
    exact ⟨[], q', h1.win (by omega) hm, by omega, h3, by omega⟩
  | cons x l ih =>
    obtain ⟨a, b⟩ := x
    rintro p e he ⟨q, h1, h2, h3, h4, h5, h6⟩
    have l1 := h1.le; have l2 := h4.le; have l3 := hlt a b h5; have l4 := arrT_lt hlt l b _ h6
    obtain ⟨q', rfl⟩ : ∃ x, q = z + x := ⟨q - z, by omega⟩
    obtain ⟨a', rfl⟩ : ∃ x, a = z + x := ⟨a - z, by omega⟩
    obtain ⟨b', rfl⟩ : ∃ x, b = z + x := ⟨b - z, by omega⟩
    obtain ⟨l', hl'⟩ := ih b' e he h6
    exact ⟨(a', b') :: l', q', h1.win (by omega) hm, by omega, h3, Sk.win (n := n) (by rw [← Nat.add_assoc]; exact h4) (by omega) hm, hV a' b' (by omega) h5, hl'⟩

theorem objT_win {V V' : Nat → Nat → Prop} {g : Nat → Int} {n z m : Nat} (hm : z + m ≤ n) (hlt : ∀ a b, V a b → a < b ∧ b ≤ n) (hV : ∀ a b, b ≤ m → V (z + a) (z + b) → V' a b) :
    ∀ (c p e : Nat), e ≤ m → ObjT V g n c (z + p) (z + e) → ObjT V' (shift g z) m c p e := by
  intro c
  induction c with
  | zero =>
    rintro p e he ⟨q, h1, h2, h3, h4⟩
    have l1 := h1.le
    obtain ⟨q', rfl⟩ : ∃ x, q = z + x := ⟨q - z, by omega⟩
    exact ⟨q', h1.win (by omega) hm, by omega, h3, by omega⟩
  | succ c ih =>
    rintro p e he ⟨q, k, a, b, h1, h2, h3, h4, h5, h6⟩
    have hM := h5
    obtain ⟨kb, cc, m1, m2, m3, m4, m5, m6, m7, m8⟩ := hM
    have l1 := h1.le; have l2 := h4.le; have l3 := hlt a b m8; have l4 := objT_lt hlt c b _ h6; have l5 := m3.lt; have l6 := m4.le; have l7 := m7.le
    obtain ⟨q', rfl⟩ : ∃ x, q = z + x := ⟨q - z, by omega⟩
    obtain ⟨k', rfl⟩ : ∃ x, k = z + x := ⟨k - z, by omega⟩
    obtain ⟨a', rfl⟩ : ∃ x, a = z + x := ⟨a - z, by omega⟩
    obtain ⟨b', rfl⟩ : ∃ x, b = z + x := ⟨b - z, by omega⟩
    exact ⟨q', k', a', b', h1.win (by omega) hm, by omega, h3, Sk.win (n := n) (by rw [← Nat.add_assoc]; exact h4) (by omega) hm, Mem.win hm hV (by omega) (by omega) h5, ih b' e he h6⟩

/-- The value, read in its own bytes. -/
theorem Val.win {g : Nat → Int} {n z m : Nat} (hm : z + m ≤ n) : ∀ (d a b : Nat), b ≤ m → Val g n d (z + a) (z + b) → Val (shift g z) m d a b := by
  intro d
  induction d with
  | zero => intro a b _ h; exact h.elim
  | succ d ih =>
    intro a b hb h
    have hl := h.lt
    obtain ⟨hs, h⟩ := h
    refine ⟨by omega, ?_⟩
    rcases h with ⟨h0, h⟩ | ⟨h0, l, h⟩ | ⟨h0, h⟩ | ⟨h1, h2, h3, h⟩
    · refine .inl ⟨h0, ?_⟩
      rcases h with ⟨q, h1, h2, h3, h4⟩ | ⟨k, a2, b2, c, h1, h5, h6⟩
      · have l1 := h1.le
        obtain ⟨q', rfl⟩ : ∃ x, q = z + x := ⟨q - z, by omega⟩
        exact .inl ⟨q', Sk.win (n := n) (by rw [← Nat.add_assoc]; exact h1) (by omega) hm, by omega, h3, by omega⟩
      · have hM := h5
        obtain ⟨kb, cc, m1, m2, m3, m4, m5, m6, m7, m8⟩ := hM
        have l1 := h1.le; have l3 := m8.lt; have l4 := objT_lt (fun _ _ h => Val.lt h) c b2 _ h6; have l5 := m3.lt; have l6 := m4.le; have l7 := m7.le
        obtain ⟨k', rfl⟩ : ∃ x, k = z + x := ⟨k - z, by omega⟩
        obtain ⟨a', rfl⟩ : ∃ x, a2 = z + x := ⟨a2 - z, by omega⟩
        obtain ⟨b', rfl⟩ : ∃ x, b2 = z + x := ⟨b2 - z, by omega⟩
        exact .inr ⟨k', a', b', c, Sk.win (n := n) (by rw [← Nat.add_assoc]; exact h1) (by omega) hm, Mem.win hm ih (by omega) (by omega) h5, objT_win hm (fun _ _ h => Val.lt h) ih c b' b hb h6⟩
    · refine .inr (.inl ⟨h0, ?_⟩)
      cases l with
      | nil =>
        obtain ⟨q, h1, h2, h3, h4⟩ := h
        have l1 := h1.le
        obtain ⟨q', rfl⟩ : ∃ x, q = z + x := ⟨q - z, by omega⟩
        exact ⟨[], q', Sk.win (n := n) (by rw [← Nat.add_assoc]; exact h1) (by omega) hm, by omega, h3, by omega⟩
      | cons x l =>
        obtain ⟨a2, b2⟩ := x
        obtain ⟨h1, h2, h3⟩ := h
        have l1 := h1.le; have l3 := h2.lt; have l4 := arrT_lt (fun _ _ h => Val.lt h) l b2 _ h3
        obtain ⟨a', rfl⟩ : ∃ x, a2 = z + x := ⟨a2 - z, by omega⟩
        obtain ⟨b', rfl⟩ : ∃ x, b2 = z + x := ⟨b2 - z, by omega⟩
        obtain ⟨l', hl'⟩ := arrT_win hm (fun _ _ h => Val.lt h) ih l b' b hb h3
        exact ⟨(a', b') :: l', Sk.win (n := n) (by rw [← Nat.add_assoc]; exact h1) (by omega) hm, ih a' b' (by omega) h2, hl'⟩
    · exact .inr (.inr (.inl ⟨h0, StrTo.win (by rw [← Nat.add_assoc]; exact h) hb⟩))
    · exact .inr (.inr (.inr ⟨h1, h2, h3, h.win hb⟩))

end Go.Proofs.Qxb6603692a
