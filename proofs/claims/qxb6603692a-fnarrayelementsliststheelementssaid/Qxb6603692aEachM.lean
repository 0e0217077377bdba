import Derived.Test.Qxb6603692aEach
namespace Go.Proofs.Qxb6603692a
open Go.RowKit

/-- The walk stands at p, right behind the opening brace or behind a member. -/
def TailO (V : Nat → Nat → Prop) (g : Nat → Int) (n s e p : Nat) : Prop := (p = s + 1 ∧ ObjL V g n s e) ∨ ∃ m, ObjT V g n m p e

theorem objT_delim {V : Nat → Nat → Prop} {g : Nat → Int} {n m p e : Nat} (h : ObjT V g n m p e) : Delim g n p := by
  cases m with
  | zero => obtain ⟨q, h1, _, h3, _⟩ := h; exact h1.delim (by rw [h3]; rfl)
  | succ m => obtain ⟨q, k, a, b, h1, _, h3, _⟩ := h; exact h1.delim (by rw [h3]; rfl)

theorem TailO.cases {V : Nat → Nat → Prop} {g : Nat → Int} {n s e p : Nat} (h : TailO V g n s e p) :
    (∃ q, Sk g n p q ∧ q < n ∧ g q = 125 ∧ e = q + 1) ∨
    (∃ k a b, Sk g n p k ∧ Mem V g n k a b ∧ Delim g n b ∧ TailO V g n s e b) ∨
    (∃ q k a b, Sk g n p q ∧ q < n ∧ g q = 44 ∧ Sk g n (q + 1) k ∧ Mem V g n k a b ∧ Delim g n b ∧ TailO V g n s e b) := by
  rcases h with ⟨rfl, h⟩ | ⟨m, h⟩
  · rcases h with h | ⟨k, a, b, m, h1, h2, h3⟩
    · exact .inl h
    · exact .inr (.inl ⟨k, a, b, h1, h2, objT_delim h3, .inr ⟨m, h3⟩⟩)
  · cases m with
    | zero => exact .inl h
    | succ m =>
      obtain ⟨q, k, a, b, h1, h2, h3, h4, h5, h6⟩ := h
      exact .inr (.inr ⟨q, k, a, b, h1, h2, h3, h4, h5, objT_delim h6, .inr ⟨m, h6⟩⟩)

/-- What 'visit' does at each member. -/
def VisitM (V : Nat → Nat → Prop) (g : Nat → Int) (bw bt off n cap : Nat) (fid : Nat) (caps : Array Value) (I : World → Prop) : Prop :=
  ∀ a b p tok w, V a b → Delim g n b → Sk g n p a → At w bw bt off n cap g p → I w →
    Calls Try.prog fid (#[tok] ++ caps) w fun e w' => e = .returned (.pointer none) ∧ At w' bw bt off n cap g b ∧ I w'
def StableM (bw : Nat) (I : World → Prop) : Prop := ∀ w w', I w → Kept bw w w' → I w'

set_option maxRecDepth 100000 in
set_option maxHeartbeats 1600000 in
theorem eachMember_any (d bw bt off n cap s e0 : Nat) (g : Nat → Int) (fid : Nat) (caps : Array Value) (I : World → Prop) (w : World) (hn : n ≤ 1048576) (hcap : n ≤ cap) (h : At w bw bt off n cap g s) (hs : s < n)
    (hL : ObjL (Val g n d) g n s e0) (hI : I w) (hst : StableM bw I) (hv : VisitM (Val g n d) g bw bt off n cap fid caps I) (hent : ∀ args w, (callFunc fid args).run Try.prog w = .ok (.enter fid args) w) :
    Calls Try.prog 36 #[.pointer (some ⟨bw, 0, none⟩), .func (.func fid) #[] caps] w fun r w' => r = .returned (.pointer none) ∧ At w' bw bt off n cap g e0 ∧ I w' := by
  have hneq := neq56_nil
  have ht0 := h.text
  have hp0 := h.pos
  have hf0 := h.free
  have F0 := h.set (s + 1)
  have I0 : I (w.setCell ⟨bw, 1, none⟩ (.int .i64 ((s + 1 : Nat) : Int))) := hst _ _ hI ((Kept.refl _ _).set 1 _)
  go_enter Try.func36, Try.ntmps36
  go_wp2_with fail
  go_loopg [] (n - (s + 1)) (fun c wr => ∃ p : Nat, c = n - p ∧ At wr bw bt off n cap g p ∧ I wr ∧ TailO (Val g n d) g n s e0 p)
  case atStart => exact ⟨s + 1, rfl, F0, I0, .inl ⟨rfl, hL⟩⟩
  case round =>
    obtain ⟨p, hgk, hA, hIk, hT⟩ := hrel
    have GK : Aside (gk = n - p) := hgk
    clear hgk h ht0 hp0 hf0 F0 I0 hI hL
    rcases hT.cases with ⟨q, hq, hqn, h125, he⟩ | ⟨k, a, b, hk, ⟨kb, c, hkn, h34, hS, hc1, hcn, h58, ha, hV⟩, hD, hT2⟩ | ⟨q, k, a, b, hq, hqn, h44, hk, ⟨kb, c, hkn, h34, hS, hc1, hcn, h58, ha, hV⟩, hD, hT2⟩
    · go_wp2_with fail
      refine (skipSpace_any bw bt off n cap p q g _ hn hA hq).mono ?_
      rintro r w1 ⟨rfl, hA1, hK1⟩
      have hI1 := hst _ _ hIk hK1
      have ht := hA1.text
      have hp := hA1.pos
      have hf := hA1.free
      have hc := hA1.bytes q hqn
      have z1 : (q : Int) < (n : Int) := by omega
      have z2 : (0 : Int) ≤ (q : Int) := by omega
      have k125 : (g q == 125) = true := beq_iff_eq.2 h125
      have HE : Hid (e0 = q + 1) := he
      clear h125 he hT
      go_wp2_with fail
      go_quiet (fail)
      go_wp2_with fail
      go_ret
      exact ⟨rfl, by rw [HE.out]; exact (hA1.drewN _).set (q + 1), hst _ _ hI1 (((Kept.refl _ _).drewN _).set 1 _)⟩
    · have hVl := hV.lt
      have hal := ha.le
      have hcl := hc1.le
      have hSl := hS.lt
      have hkl := hk.le
      go_wp2_with fail
      refine (skipSpace_any bw bt off n cap p k g _ hn hA hk).mono ?_
      rintro r w1 ⟨rfl, hA1, hK1⟩
      have hI1 := hst _ _ hIk hK1
      have ht := hA1.text
      have hp := hA1.pos
      have hf := hA1.free
      have hc := hA1.bytes k hkn
      have z1 : (k : Int) < (n : Int) := by omega
      have z2 : (0 : Int) ≤ (k : Int) := by omega
      have k125 : (g k == 125) = false := beq_eq_false_iff_ne.2 (by omega)
      have k44 : (g k == 44) = false := beq_eq_false_iff_ne.2 (by omega)
      clear hT h34
      go_wp2_with fail
      go_quiet (fail)
      go_wp2_with fail
      refine (str_any bw bt off n cap k kb g _ hn hcap (hA1.drewN _) hS).mono ?_
      rintro r w2 ⟨⟨v, rfl⟩, hA2, hK2⟩
      have hI2 := hst _ _ hI1 (((Kept.refl _ _).drewN _).trans hK2)
      clear ht hp hf hc hA1 hI1 hK2
      go_wp2_with fail
      refine (skipSpace_any bw bt off n cap kb c g _ hn hA2 hc1).mono ?_
      rintro r w3 ⟨rfl, hA3, hK3⟩
      have hI3 := hst _ _ hI2 hK3
      have ht := hA3.text
      have hp := hA3.pos
      have hf := hA3.free
      clear hA2 hI2 hK3
      go_wp2_with fail
      refine (hv a b (c + 1) _ _ hV hD ha (hA3.set (c + 1)) (hst _ _ hI3 ((Kept.refl _ _).set 1 _))).mono ?_
      rintro r w4 ⟨rfl, hA4, hI4⟩
      clear hv hent
      go_wp2_with fail
      go_roundg (n - b)
      case measure => rw [GK.out]; omega
      case rel => exact ⟨b, rfl, hA4, hI4, hT2⟩
    · have hVl := hV.lt
      have hal := ha.le
      have hcl := hc1.le
      have hSl := hS.lt
      have hkl := hk.le
      have hql := hq.le
      go_wp2_with fail
      refine (skipSpace_any bw bt off n cap p q g _ hn hA hq).mono ?_
      rintro r w1 ⟨rfl, hA1, hK1⟩
      have hI1 := hst _ _ hIk hK1
      have ht := hA1.text
      have hp := hA1.pos
      have hf := hA1.free
      have hc := hA1.bytes q hqn
      have z1 : (q : Int) < (n : Int) := by omega
      have z2 : (0 : Int) ≤ (q : Int) := by omega
      have k125 : (g q == 125) = false := beq_eq_false_iff_ne.2 (by omega)
      have k44 : (g q == 44) = true := beq_iff_eq.2 h44
      clear hT h44
      go_wp2_with fail
      go_quiet (fail)
      go_wp2_with fail
      refine (skipSpace_any bw bt off n cap (q + 1) k g _ hn ((hA1.drewN _).set (q + 1)) hk).mono ?_
      rintro r w5 ⟨rfl, hA5, hK5⟩
      have hI5 := hst _ _ hI1 ((((Kept.refl _ _).drewN _).set 1 _).trans hK5)
      clear ht hp hf hc hA1 hI1 hK5
      go_wp2_with fail
      refine (str_any bw bt off n cap k kb g _ hn hcap hA5 hS).mono ?_
      rintro r w2 ⟨⟨v, rfl⟩, hA2, hK2⟩
      have hI2 := hst _ _ hI5 hK2
      clear hA5 hI5 hK2
      go_wp2_with fail
      refine (skipSpace_any bw bt off n cap kb c g _ hn hA2 hc1).mono ?_
      rintro r w3 ⟨rfl, hA3, hK3⟩
      have hI3 := hst _ _ hI2 hK3
      have ht := hA3.text
      have hp := hA3.pos
      have hf := hA3.free
      clear hA2 hI2 hK3
      go_wp2_with fail
      refine (hv a b (c + 1) _ _ hV hD ha (hA3.set (c + 1)) (hst _ _ hI3 ((Kept.refl _ _).set 1 _))).mono ?_
      rintro r w4 ⟨rfl, hA4, hI4⟩
      clear hv hent
      go_wp2_with fail
      go_roundg (n - b)
      case measure => rw [GK.out]; omega
      case rel => exact ⟨b, rfl, hA4, hI4, hT2⟩
end Go.Proofs.Qxb6603692a
