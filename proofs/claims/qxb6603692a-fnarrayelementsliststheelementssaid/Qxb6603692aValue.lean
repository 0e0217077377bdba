import Derived.Test.Qxb6603692aArr
import Derived.Test.Qxb6603692aObj
namespace Go.Proofs.Qxb6603692a
open Go.RowKit

theorem lit_true : Hid (∀ k (h : k < (⟨#[116, 114, 117, 101]⟩ : ByteArray).size), endS ((((⟨#[116, 114, 117, 101]⟩ : ByteArray)[k]).toNat : Nat) : Int) = false) := by unfold Hid; decide
theorem lit_false : Hid (∀ k (h : k < (⟨#[102, 97, 108, 115, 101]⟩ : ByteArray).size), endS ((((⟨#[102, 97, 108, 115, 101]⟩ : ByteArray)[k]).toNat : Nat) : Int) = false) := by unfold Hid; decide
theorem lit_null : Hid (∀ k (h : k < (⟨#[110, 117, 108, 108]⟩ : ByteArray).size), endS ((((⟨#[110, 117, 108, 108]⟩ : ByteArray)[k]).toNat : Nat) : Int) = false) := by unfold Hid; decide

theorem tabAt_drewN {w : World} {be n : Nat} {E : Nat → Int} (h : TabAt w be n E) (nq : Nat) : TabAt (w.drewN nq) be n E := h

theorem below_drewN {B : Nat} {a w : World} (h : Below B a w) (nq : Nat) : Below B a (w.drewN nq) := ⟨h.os, h.tape, h.output, h.size, h.block⟩

/-- The two stores behind a value that was read. -/
theorem value_end {g E P E1 P1 : Nat → Int} {n k i j be bp : Nat} {parent : Int} {w w1 : World} (hE : TabAt w1 be n E1) (hP : TabAt w1 bp n P1) (hB : Below be w w1) (hbe : be < bp) (hV : VPost g n k i j parent E P (upd E1 i j) (upd P1 i parent)) :
    TRes (fun j E' P' => VPost g n k i j parent E P E' P') n be bp w (.returned (.tuple #[.int .i64 (j : Int), .bool true])) ((w1.setCell ⟨be, i, none⟩ (.int .i64 (j : Int))).setCell ⟨bp, i, none⟩ (.int .i64 parent)) :=
  tres_yes j (tabAt_set_other (tabAt_set hE i j) _ (by omega)) (tabAt_set (tabAt_set_other hP _ (by omega)) i parent) ((hB.setCell (p := ⟨be, i, none⟩) (Nat.le_refl _) _).setCell (p := ⟨bp, i, none⟩) (Nat.le_of_lt hbe) _) hV

set_option maxRecDepth 100000 in
set_option maxHeartbeats 3200000 in
theorem value_ok (k : Nat) (ha : ArrayOk k) (ho : ObjectOk k) : ValueOk (k + 1) := by
  intro bt off n cap be bp i δ g E P parent w hn ht hE hP hbt hbe h0 hi hk
  have hne1 : ¬ bp = be := by omega
  have hne2 : ¬ be = bp := by omega
  by_cases hin : i < n
  · have hci := ht i hin
    by_cases h123 : g i = 123
    · clear ha
      go_enter Try.func24, Try.ntmps24
      go_wp2_with fail
      refine (ho bt off n cap be bp i (δ + 1) g E P _ hn ht hE hP hbt hbe h0 hin (by omega)).mono ?_
      rintro e w1 ⟨E1, P1, hE1, hP1, hB1, hres⟩
      clear hE hP ht hci
      rcases hres with rfl | ⟨j, rfl, hA, l, hR⟩
      · go_wp2_with fail
        go_ret2
        exact tres_no hE1 hP1 hB1
      · have hce := (hE1 i hin).1
        have hfe := (hE1 i hin).2
        have hcp := (hP1 i hin).1
        have hfp := (hP1 i hin).2
        have V : VPost g n (k + 1) i j parent E P (upd E1 i j) (upd P1 i parent) := VPost.container (d := k) hR ⟨hin, .inl ⟨h123, hA⟩⟩ (fun e => absurd e (by omega))
        clear hR hA
        go_wp2_with fail
        go_ret2
        exact value_end hE1 hP1 hB1 hbe V
    · by_cases h91 : g i = 91
      · clear ho
        go_enter Try.func24, Try.ntmps24
        go_wp2_with fail
        refine (ha bt off n cap be bp i (δ + 1) g E P _ hn ht hE hP hbt hbe h0 hin (by omega)).mono ?_
        rintro e w1 ⟨E1, P1, hE1, hP1, hB1, hres⟩
        clear hE hP ht hci
        rcases hres with rfl | ⟨j, rfl, l, hA, hR⟩
        · go_wp2_with fail
          go_ret2
          exact tres_no hE1 hP1 hB1
        · have hce := (hE1 i hin).1
          have hfe := (hE1 i hin).2
          have hcp := (hP1 i hin).1
          have hfp := (hP1 i hin).2
          have V : VPost g n (k + 1) i j parent E P (upd E1 i j) (upd P1 i parent) := VPost.container (d := k) hR ⟨hin, .inr (.inl ⟨h91, l, hA⟩)⟩ (fun _ => hA)
          clear hR hA
          go_wp2_with fail
          go_ret2
          exact value_end hE1 hP1 hB1 hbe V
      · clear ha ho
        by_cases h34 : g i = 34
        · go_enter Try.func24, Try.ntmps24
          go_wp2_with fail
          refine (zzString_any bt off n cap i g _ hn ht hin).mono ?_
          rintro e w1 ⟨hres, rfl⟩
          rcases hres with rfl | ⟨j, rfl, hS⟩
          · go_wp2_with fail
            go_ret2
            exact tres_no (hE) (hP) (Below.refl _ _)
          · have hce := (hE i hin).1
            have hfe := (hE i hin).2
            have hcp := (hP i hin).1
            have hfp := (hP i hin).2
            have V : VPost g n (k + 1) i j parent E P (upd E i j) (upd P i parent) := VPost.leaf ⟨hin, .inr (.inr (.inl ⟨h34, hS⟩))⟩ h0 h91
            go_wp2_with fail
            go_ret2
            exact value_end (w1 := w1) (hE) (hP) (Below.refl _ _) hbe V
        · by_cases h116 : g i = 116
          · go_enter Try.func24, Try.ntmps24
            go_wp2_with fail
            refine (zzLit_any bt off n cap i g ⟨#[116, 114, 117, 101]⟩ _ hn ht hin (by decide) (by decide) lit_true).mono ?_
            rintro e w1 ⟨hres, nq, rfl⟩
            rcases hres with rfl | ⟨j, rfl, hS⟩
            · go_wp2_with fail
              go_ret2
              exact tres_no (tabAt_drewN hE _) (tabAt_drewN hP _) (below_drewN (Below.refl _ _) _)
            · have hce := (hE i hin).1
              have hfe := (hE i hin).2
              have hcp := (hP i hin).1
              have hfp := (hP i hin).2
              have V : VPost g n (k + 1) i j parent E P (upd E i j) (upd P i parent) := VPost.leaf ⟨hin, .inr (.inr (.inr ⟨h123, h91, h34, hS⟩))⟩ h0 h91
              go_wp2_with fail
              go_ret2
              exact value_end (w1 := w.drewN nq) (tabAt_drewN hE _) (tabAt_drewN hP _) (below_drewN (Below.refl _ _) _) hbe V
          · by_cases h102 : g i = 102
            · go_enter Try.func24, Try.ntmps24
              go_wp2_with fail
              refine (zzLit_any bt off n cap i g ⟨#[102, 97, 108, 115, 101]⟩ _ hn ht hin (by decide) (by decide) lit_false).mono ?_
              rintro e w1 ⟨hres, nq, rfl⟩
              rcases hres with rfl | ⟨j, rfl, hS⟩
              · go_wp2_with fail
                go_ret2
                exact tres_no (tabAt_drewN hE _) (tabAt_drewN hP _) (below_drewN (Below.refl _ _) _)
              · have hce := (hE i hin).1
                have hfe := (hE i hin).2
                have hcp := (hP i hin).1
                have hfp := (hP i hin).2
                have V : VPost g n (k + 1) i j parent E P (upd E i j) (upd P i parent) := VPost.leaf ⟨hin, .inr (.inr (.inr ⟨h123, h91, h34, hS⟩))⟩ h0 h91
                go_wp2_with fail
                go_ret2
                exact value_end (w1 := w.drewN nq) (tabAt_drewN hE _) (tabAt_drewN hP _) (below_drewN (Below.refl _ _) _) hbe V
            · by_cases h110 : g i = 110
              · go_enter Try.func24, Try.ntmps24
                go_wp2_with fail
                refine (zzLit_any bt off n cap i g ⟨#[110, 117, 108, 108]⟩ _ hn ht hin (by decide) (by decide) lit_null).mono ?_
                rintro e w1 ⟨hres, nq, rfl⟩
                rcases hres with rfl | ⟨j, rfl, hS⟩
                · go_wp2_with fail
                  go_ret2
                  exact tres_no (tabAt_drewN hE _) (tabAt_drewN hP _) (below_drewN (Below.refl _ _) _)
                · have hce := (hE i hin).1
                  have hfe := (hE i hin).2
                  have hcp := (hP i hin).1
                  have hfp := (hP i hin).2
                  have V : VPost g n (k + 1) i j parent E P (upd E i j) (upd P i parent) := VPost.leaf ⟨hin, .inr (.inr (.inr ⟨h123, h91, h34, hS⟩))⟩ h0 h91
                  go_wp2_with fail
                  go_ret2
                  exact value_end (w1 := w.drewN nq) (tabAt_drewN hE _) (tabAt_drewN hP _) (below_drewN (Below.refl _ _) _) hbe V
              · go_enter Try.func24, Try.ntmps24
                go_wp2_with fail
                refine (zzNumber_any bt off n cap i g _ hn ht hin).mono ?_
                rintro e w1 ⟨hres, nq, rfl⟩
                rcases hres with rfl | ⟨j, rfl, hS⟩
                · go_wp2_with fail
                  go_ret2
                  exact tres_no (tabAt_drewN hE _) (tabAt_drewN hP _) (below_drewN (Below.refl _ _) _)
                · have hce := (hE i hin).1
                  have hfe := (hE i hin).2
                  have hcp := (hP i hin).1
                  have hfp := (hP i hin).2
                  have V : VPost g n (k + 1) i j parent E P (upd E i j) (upd P i parent) := VPost.leaf ⟨hin, .inr (.inr (.inr ⟨h123, h91, h34, hS⟩))⟩ h0 h91
                  go_wp2_with fail
                  go_ret2
                  exact value_end (w1 := w.drewN nq) (tabAt_drewN hE _) (tabAt_drewN hP _) (below_drewN (Below.refl _ _) _) hbe V
  · go_enter Try.func24, Try.ntmps24
    go_wp2_with fail
    go_ret2
    exact tres_no hE hP (Below.refl _ _)

theorem values_ok : ∀ k, 1 ≤ k → ValueOk k := by
  intro k
  induction k with
  | zero => intro h; omega
  | succ k ih => intro _; exact value_ok k (array_ok k ih) (object_ok k ih)
end Go.Proofs.Qxb6603692a
