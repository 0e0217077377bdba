import Derived.Test.Qxb6603692aWalk
namespace Go.Proofs.Qxb6603692a
open Go.RowKit

set_option maxRecDepth 100000 in
set_option maxHeartbeats 1600000 in
theorem str_any (bw bt off n cap p e0 : Nat) (g : Nat → Int) (w : World) (hn : n ≤ 1048576) (hcap : n ≤ cap) (h : At w bw bt off n cap g p) (hS : StrTo g n (p + 1) e0) :
    Calls Try.prog 40 #[.pointer (some ⟨bw, 0, none⟩)] w fun e w' => (∃ v, e = .returned (.slice (some v) (e0 - p) (cap - p))) ∧ At w' bw bt off n cap g e0 ∧ Kept bw w w' := by
  have ht0 := h.text
  have hp0 := h.pos
  have hf0 := h.free
  have F0 := h.set (p + 1)
  have K0 := (Kept.refl bw w).set 1 (.int .i64 ((p + 1 : Nat) : Int))
  have hSl := hS.lt
  go_enter Try.func40, Try.ntmps40
  go_wp2_with fail
  go_loopg [] (n - (p + 1)) (fun c wr => ∃ q : Nat, c = n - q ∧ p < q ∧ At wr bw bt off n cap g q ∧ Kept bw w wr ∧ StrTo g n q e0)
  case atStart => exact ⟨p + 1, rfl, by omega, F0, K0, hS⟩
  case round =>
    obtain ⟨q, hgk, hpq, hA, hK, hS1⟩ := hrel
    have GK : Aside (gk = n - q) := hgk
    clear hgk h ht0 hp0 hf0 F0 K0 hS
    have hl := hS1.lt
    obtain ⟨hqn, hqe, hen⟩ := hl
    have ht := hA.text
    have hp := hA.pos
    have hf := hA.free
    have hc := hA.bytes q hqn
    have z1 : (q : Int) < (n : Int) := by omega
    have z2 : (0 : Int) ≤ (q : Int) := by omega
    by_cases h34 : g q = 34
    · have k34 : (g q != 34) = false := by rw [bne_eq_false_iff_eq]; exact h34
      have E : Hid (e0 = q + 1) := hS1.quote_inv h34
      have F := hA.set (q + 1)
      clear h34 hS1
      go_wp2_with fail
      go_quiet (fail)
      go_wp2_with fail
      go_quiet (fail)
      go_wp2_with fail
      go_ret
      exact ⟨⟨_, by rw [E.out]; rfl⟩, by rw [E.out]; exact ((hA.drewN _).set (q + 1)).drewN _, ((hK.drewN _).set 1 _).drewN _⟩
    · have k34 : (g q != 34) = true := by rw [bne_iff_ne]; exact h34
      by_cases h92 : g q = 92
      · have k92 : (g q == 92) = true := beq_iff_eq.2 h92
        have S2 := hS1.esc_inv h92
        have F := (hA.set (q + 1)).set (q + 2)
        clear h34 h92 hS1
        go_wp2_with fail
        go_quiet (fail)
        go_wp2_with fail
        go_quiet (fail)
        go_wp2_with fail
        go_roundg (n - (q + 2))
        case measure => rw [GK.out]; omega
        case rel => exact ⟨q + 2, rfl, by omega, F.drewN _, ((hK.set 1 _).set 1 _).drewN _, S2⟩
      · have k92 : (g q == 92) = false := beq_eq_false_iff_ne.2 h92
        have S2 := hS1.plain_inv h34 h92
        have F := hA.set (q + 1)
        clear h34 h92 hS1
        go_wp2_with fail
        go_quiet (fail)
        go_wp2_with fail
        go_quiet (fail)
        go_wp2_with fail
        go_roundg (n - (q + 1))
        case measure => rw [GK.out]; omega
        case rel => exact ⟨q + 1, rfl, by omega, F.drewN _, (hK.set 1 _).drewN _, S2⟩
end Go.Proofs.Qxb6603692a
