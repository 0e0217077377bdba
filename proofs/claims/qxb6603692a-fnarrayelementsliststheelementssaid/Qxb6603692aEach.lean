import Derived.Test.Qxb6603692aWalkStr
namespace Go.Proofs.Qxb6603692a
open Go.RowKit

/-- k elements have been visited, the walk stands at p. -/
def Tail (V : Nat → Nat → Prop) (g : Nat → Int) (n s e : Nat) (l : List (Nat × Nat)) (k p : Nat) : Prop :=
  (k = 0 ∧ p = s + 1 ∧ ArrL V g n s e l) ∨ (0 < k ∧ k ≤ l.length ∧ ArrT V g n (l.drop k) p e)

theorem arrT_delim {V : Nat → Nat → Prop} {g : Nat → Int} {n : Nat} {l : List (Nat × Nat)} {p e : Nat} (h : ArrT V g n l p e) : Delim g n p := by
  cases l with
  | nil => obtain ⟨q, h1, _, h3, _⟩ := h; exact h1.delim (by rw [h3]; rfl)
  | cons x l => obtain ⟨a, b⟩ := x; obtain ⟨q, h1, _, h3, _⟩ := h; exact h1.delim (by rw [h3]; rfl)

/-- What the walk meets: the end; the first element; a comma and an element. -/
theorem Tail.cases {V : Nat → Nat → Prop} {g : Nat → Int} {n s e : Nat} {l : List (Nat × Nat)} {k p : Nat} (h : Tail V g n s e l k p) :
    (∃ q, Sk g n p q ∧ q < n ∧ g q = 93 ∧ e = q + 1 ∧ k = l.length) ∨
    (∃ a b, Sk g n p a ∧ V a b ∧ l[k]? = some (a, b) ∧ Delim g n b ∧ k < l.length ∧ Tail V g n s e l (k + 1) b) ∨
    (∃ q a b, Sk g n p q ∧ q < n ∧ g q = 44 ∧ Sk g n (q + 1) a ∧ V a b ∧ l[k]? = some (a, b) ∧ Delim g n b ∧ k < l.length ∧ Tail V g n s e l (k + 1) b) := by
  rcases h with ⟨rfl, rfl, h⟩ | ⟨hk, hkl, h⟩
  · cases l with
    | nil => obtain ⟨q, h1, h2, h3, h4⟩ := h; exact .inl ⟨q, h1, h2, h3, h4, rfl⟩
    | cons x l =>
      obtain ⟨a, b⟩ := x
      obtain ⟨h1, h2, h3⟩ := h
      exact .inr (.inl ⟨a, b, h1, h2, rfl, arrT_delim h3, by simp, .inr ⟨by omega, by simp, h3⟩⟩)
  · by_cases hlt : k < l.length
    · have e1 : l.drop k = l[k] :: l.drop (k + 1) := List.drop_eq_getElem_cons hlt
      obtain ⟨a, b, hx⟩ : ∃ a b, l[k] = (a, b) := ⟨_, _, rfl⟩
      rw [e1, hx] at h
      obtain ⟨q, h1, h2, h3, h4, h5, h6⟩ := h
      exact .inr (.inr ⟨q, a, b, h1, h2, h3, h4, h5, by rw [List.getElem?_eq_getElem hlt, hx], arrT_delim h6, hlt, .inr ⟨by omega, by omega, h6⟩⟩)
    · have e1 : k = l.length := by omega
      rw [e1, List.drop_length] at h
      obtain ⟨q, h1, h2, h3, h4⟩ := h
      exact .inl ⟨q, h1, h2, h3, h4, e1⟩

/-- What 'visit' does at each element: the walk stands behind it then. -/
def VisitOk (V : Nat → Nat → Prop) (g : Nat → Int) (bw bt off n cap : Nat) (l : List (Nat × Nat)) (fid : Nat) (caps : Array Value) (I : Nat → World → Prop) : Prop :=
  ∀ k a b p w, l[k]? = some (a, b) → V a b → Delim g n b → Sk g n p a → At w bw bt off n cap g p → I k w →
    Calls Try.prog fid (#[.int .i64 (k : Int)] ++ caps) w fun e w' => e = .returned (.pointer none) ∧ At w' bw bt off n cap g b ∧ I (k + 1) w'
/-- What the walk's own moves leave alone. -/
def Stable (bw : Nat) (I : Nat → World → Prop) : Prop := ∀ k w w', I k w → Kept bw w w' → I k w'

theorem neq56_nil (w : World) : (binOp .neq 56 (.pointer none) (.pointer none)).run Try.prog w = .ok (.bool false) w := by kernel_rfl

set_option maxRecDepth 100000 in
set_option maxHeartbeats 1600000 in
theorem eachElement_any (d bw bt off n cap s e0 : Nat) (g : Nat → Int) (l : List (Nat × Nat)) (fid : Nat) (caps : Array Value) (I : Nat → World → Prop) (w : World) (hn : n ≤ 1048576) (h : At w bw bt off n cap g s) (hs : s < n)
    (hL : ArrL (Val g n d) g n s e0 l) (hI : I 0 w) (hst : Stable bw I) (hv : VisitOk (Val g n d) g bw bt off n cap l fid caps I) (hl : l.length ≤ 1048576) (hent : ∀ args w, (callFunc fid args).run Try.prog w = .ok (.enter fid args) w) :
    Calls Try.prog 38 #[.pointer (some ⟨bw, 0, none⟩), .func (.func fid) #[] caps] w fun r w' => r = .returned (.pointer none) ∧ At w' bw bt off n cap g e0 ∧ I l.length w' := by
  have hneq := neq56_nil
  have ht0 := h.text
  have hp0 := h.pos
  have hf0 := h.free
  have F0 := h.set (s + 1)
  have I0 : I 0 (w.setCell ⟨bw, 1, none⟩ (.int .i64 ((s + 1 : Nat) : Int))) := hst 0 _ _ hI ((Kept.refl _ _).set 1 _)
  go_enter Try.func38, Try.ntmps38
  go_wp2_with fail
  go_loopg [5] l.length (fun c x wr => ∃ k p : Nat, c = l.length - k ∧ k ≤ l.length ∧ x = .int .i64 (k : Int) ∧ At wr bw bt off n cap g p ∧ I k wr ∧ Tail (Val g n d) g n s e0 l k p)
  case atStart => exact ⟨0, s + 1, rfl, Nat.zero_le _, rfl, F0, I0, .inl ⟨rfl, rfl, hL⟩⟩
  case round =>
    obtain ⟨k, p, hgk, hk, rfl, hA, hIk, hT⟩ := hrel
    have GK : Aside (gk = l.length - k) := hgk
    clear hgk h ht0 hp0 hf0 F0 I0 hI hL
    rcases hT.cases with ⟨q, hq, hqn, h93, he, hkl⟩ | ⟨a, b, ha, hV, hlk, hD, hkl, hT2⟩ | ⟨q, a, b, hq, hqn, h44, ha, hV, hlk, hD, hkl, hT2⟩
    · go_wp2_with fail
      refine (skipSpace_any bw bt off n cap p q g _ hn hA hq).mono ?_
      rintro r w1 ⟨rfl, hA1, hK1⟩
      have hI1 := hst k _ _ hIk hK1
      have ht := hA1.text
      have hp := hA1.pos
      have hf := hA1.free
      have hc := hA1.bytes q hqn
      have z1 : (q : Int) < (n : Int) := by omega
      have z2 : (0 : Int) ≤ (q : Int) := by omega
      have k93 : (g q == 93) = true := beq_iff_eq.2 h93
      have HE : Hid (e0 = q + 1) := he
      have HK : Hid (k = l.length) := hkl
      clear h93 he hkl hT
      go_wp2_with fail
      go_quiet (fail)
      go_wp2_with fail
      go_ret
      refine ⟨rfl, by rw [HE.out]; exact (hA1.drewN _).set (q + 1), ?_⟩
      rw [← HK.out]
      exact hst k _ _ hI1 (((Kept.refl _ _).drewN _).set 1 _)
    · have hst2 := hV.start
      have hno := endS_no hst2.2
      have han := hst2.1
      go_wp2_with fail
      refine (skipSpace_any bw bt off n cap p a g _ hn hA ha).mono ?_
      rintro r w1 ⟨rfl, hA1, hK1⟩
      have hI1 := hst k _ _ hIk hK1
      have ht := hA1.text
      have hp := hA1.pos
      have hf := hA1.free
      have hc := hA1.bytes a han
      have z1 : (a : Int) < (n : Int) := by omega
      have z2 : (0 : Int) ≤ (a : Int) := by omega
      have k93 : (g a == 93) = false := beq_eq_false_iff_ne.2 hno.2.2.1
      have k44 : (g a == 44) = false := beq_eq_false_iff_ne.2 hno.2.1
      have hSk : Sk g n a a := ⟨Nat.le_refl _, by omega, fun q h1 h2 => by omega, fun _ => hno.1⟩
      clear hst2 hno hT
      go_wp2_with fail
      go_quiet (fail)
      go_wp2_with fail
      refine (hv k a b a _ hlk hV hD hSk (hA1.drewN _) (hst k _ _ hI1 ((Kept.refl _ _).drewN _))).mono ?_
      rintro r w2 ⟨rfl, hA2, hI2⟩
      clear hv hent
      go_wp2_with fail
      go_roundg (l.length - (k + 1))
      case measure => rw [GK.out]; omega
      case rel => exact ⟨k + 1, b, rfl, by omega, by go_num, hA2, hI2, hT2⟩
    · go_wp2_with fail
      refine (skipSpace_any bw bt off n cap p q g _ hn hA hq).mono ?_
      rintro r w1 ⟨rfl, hA1, hK1⟩
      have hI1 := hst k _ _ hIk hK1
      have ht := hA1.text
      have hp := hA1.pos
      have hf := hA1.free
      have hc := hA1.bytes q hqn
      have z1 : (q : Int) < (n : Int) := by omega
      have z2 : (0 : Int) ≤ (q : Int) := by omega
      have k93 : (g q == 93) = false := beq_eq_false_iff_ne.2 (by omega)
      have k44 : (g q == 44) = true := beq_iff_eq.2 h44
      clear hT h44
      go_wp2_with fail
      go_quiet (fail)
      go_wp2_with fail
      refine (hv k a b (q + 1) _ hlk hV hD ha ((hA1.drewN _).set (q + 1)) (hst k _ _ hI1 (((Kept.refl _ _).drewN _).set 1 _))).mono ?_
      rintro r w2 ⟨rfl, hA2, hI2⟩
      clear hv hent
      go_wp2_with fail
      go_roundg (l.length - (k + 1))
      case measure => rw [GK.out]; omega
      case rel => exact ⟨k + 1, b, rfl, by omega, by go_num, hA2, hI2, hT2⟩
end Go.Proofs.Qxb6603692a
