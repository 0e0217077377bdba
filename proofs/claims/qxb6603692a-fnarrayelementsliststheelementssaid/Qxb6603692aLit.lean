import Derived.Test.Qxb6603692aNum
namespace Go.Proofs.Qxb6603692a
open Go.RowKit

theorem textAt_drewN {w : World} {bt off n : Nat} {g : Nat → Int} (h : TextAt w bt off n g) (nq : Nat) : TextAt (w.drewN nq) bt off n g := h

theorem drewN_drewN (w : World) (a b : Nat) : (w.drewN a).drewN b = w.drewN (a + b) := by
  simp [World.drewN, Nat.add_assoc]
theorem drew_drewN (w : World) (a : Nat) : (w.drewN a).drew = w.drewN (a + 1) := rfl

set_option maxHeartbeats 800000 in
theorem zzLit_any (bt off n cap i : Nat) (g : Nat → Int) (s : ByteArray) (w : World) (hn : n ≤ 1048576) (ht : TextAt w bt off n g) (hi : i < n) (hs : s.size ≤ 8) (hs0 : 0 < s.size) (hl : Hid (∀ k (h : k < s.size), endS ((s[k].toNat : Nat) : Int) = false)) :
    Calls Try.prog 33 #[.slice (some ⟨bt, off, none⟩) n cap, .int .i64 (i : Int), .string s] w (ScalPost g n i w) := by
  by_cases hfit : i + s.size ≤ n
  · go_enter Try.func33, Try.ntmps33
    go_wp2_with fail
    go_loopg [8] s.size (fun c x wr => ∃ k nq : Nat, c = s.size - k ∧ k ≤ s.size ∧ x = .int .i64 (k : Int) ∧ NoEnd g i (i + k) ∧ wr = w.drewN nq)
    case atStart => exact ⟨0, 0, rfl, Nat.zero_le _, rfl, NoEnd.refl g i, rfl⟩
    case round =>
      obtain ⟨k, nq, hgk, hk, rfl, hN, rfl⟩ := hrel
      have GK : Aside (gk = s.size - k) := hgk
      clear hgk
      by_cases hks : k < s.size
      · have hc := ht (i + k) (by omega)
        have b1 : (i : Int) + (k : Int) < (n : Int) := by omega
        have b2 : (k : Int) < (s.size : Int) := by omega
        have b3 : (0 : Int) ≤ (i : Int) + (k : Int) := by omega
        have hwr : IntKind.i64.wrap ((i : Int) + (k : Int)) = (i : Int) + (k : Int) := by rw [IntKind.wrap_i64]; omega
        have hto : ((i : Int) + (k : Int)).toNat = i + k := by omega
        by_cases heq : g (i + k) = ((s[k].toNat : Nat) : Int)
        · have HN : NoEnd g i (i + (k + 1)) := hN.one (by rw [heq]; exact hl.out k hks)
          have kq : (g (i + k) != ((s[k].toNat : Nat) : Int)) = false := by rw [bne_eq_false_iff_eq]; exact heq
          clear heq
          go_wp2_with fail
          go_quiet (fail)
          go_wp2_with fail
          go_roundg (s.size - (k + 1))
          case measure => rw [GK.out]; omega
          case rel => exact ⟨k + 1, _, rfl, by omega, by go_num, HN, (by first | rfl | exact drewN_drewN w _ _)⟩
        · have kq : (g (i + k) != ((s[k].toNat : Nat) : Int)) = true := by rw [bne_iff_ne]; exact heq
          clear heq
          go_wp2_with fail
          go_quiet (fail)
          go_wp2_with fail
          go_ret2
          exact ⟨.inl rfl, _, (by first | rfl | exact drewN_drewN w _ _)⟩
      · have hks2 : k = s.size := by omega
        subst hks2
        go_wp2_with fail
        go_ret2
        exact ⟨.inr ⟨i + s.size, by simp, by omega, hfit, hN⟩, _, rfl⟩
  · go_enter Try.func33, Try.ntmps33
    go_wp2_with fail
    go_ret2
    exact scal_no g n i _
end Go.Proofs.Qxb6603692a
