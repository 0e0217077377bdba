import Derived.Test.Qxb6603692aTab
namespace Go.Proofs.Qxb6603692a
open Go.RowKit

/-- Whatever is read from the element at p on makes an array behind the elements l. -/
def ArrBack (g : Nat → Int) (n k op p : Nat) (l : List (Nat × Nat)) : Prop := ∀ b l2 e, Val g n k p b → ArrT (Val g n k) g n l2 b e → ArrL (Val g n k) g n op e (l ++ (p, b) :: l2)

theorem ArrBack.first {g : Nat → Int} {n k op p : Nat} (h : Sk g n (op + 1) p) : ArrBack g n k op p [] := fun _ _ _ hv ht => ⟨h, hv, ht⟩
theorem ArrBack.next {g : Nat → Int} {n k op p b q p2 : Nat} {l : List (Nat × Nat)} (h : ArrBack g n k op p l) (hv : Val g n k p b) (hq : Sk g n b q) (hqn : q < n) (hc : g q = 44) (hp2 : Sk g n (q + 1) p2) : ArrBack g n k op p2 (l ++ [(p, b)]) := fun b2 l2 e hv2 ht2 => by
  have := h b ((p2, b2) :: l2) e hv ⟨q, hq, hqn, hc, hp2, hv2, ht2⟩
  simpa using this
theorem ArrBack.done {g : Nat → Int} {n k op p b q : Nat} {l : List (Nat × Nat)} (h : ArrBack g n k op p l) (hv : Val g n k p b) (hq : Sk g n b q) (hqn : q < n) (hc : g q = 93) : ArrL (Val g n k) g n op (q + 1) (l ++ [(p, b)]) :=
  h b [] (q + 1) hv ⟨q, hq, hqn, hc, rfl⟩

set_option maxRecDepth 100000 in
set_option maxHeartbeats 1600000 in
theorem array_ok (k : Nat) (hv : 1 ≤ k → ValueOk k) : ArrayOk k := by
  intro bt off n cap be bp i δ g E P w hn ht hE hP hbt hbe h0 hi hk
  by_cases hd : δ ≤ 10000
  · have hv1 := hv (by omega)
    clear hv
    obtain ⟨p0, hp0⟩ := Sk.ex g n (i + 1) (by omega)
    have hle0 := hp0.le
    have htop0 := hp0.top
    go_enter Try.func31, Try.ntmps31
    go_wp2_with fail
    refine (zzWS_any bt off n cap (i + 1) p0 g _ hn ht hp0).mono ?_
    rintro e w' ⟨rfl, rfl⟩
    by_cases hshut : p0 < n ∧ g p0 = 93
    · obtain ⟨hp0n, h93⟩ := hshut
      have hc0 := ht p0 hp0n
      have A : ArrL (Val g n k) g n i (p0 + 1) [] := ⟨p0, hp0, hp0n, h93, rfl⟩
      have R := (Rec.begin g n i E P).adv (j := p0 + 1) (by omega) h0
      clear hv1
      go_wp2_with fail
      go_ret2
      exact tres_yes (p0 + 1) hE hP (Below.refl _ _) ⟨[], A, R⟩
    · have hways : (p0 < n ∧ w'.cell? ⟨bt, off + p0, none⟩ = some (.int .u8 (g p0)) ∧ (g p0 == 93) = false) ∨ ¬ p0 < n := by
        by_cases h : p0 < n
        · exact .inl ⟨h, ht p0 h, beq_eq_false_iff_ne.2 (fun e => hshut ⟨h, e⟩)⟩
        · exact .inr h
      clear hshut
      have hstart : Hid (Rec g n i p0 [] E P E P ∧ ArrBack g n k i p0 []) := ⟨(Rec.begin g n i E P).adv (j := p0) (by omega) h0, ArrBack.first hp0⟩
      rcases hways with ⟨hp0n, hc0, k93⟩ | hp0n
      · have z1 : decide ((p0 : Int) < (n : Int)) = true := by simp; omega
        go_wp2_with fail
        go_loopg [12] (n - p0) (fun c x wr => ∃ (p : Nat) (l : List (Nat × Nat)) (E1 P1 : Nat → Int), c = n - p ∧ p ≤ n ∧ x = .int .i64 (p : Int) ∧ TabAt wr be n E1 ∧ TabAt wr bp n P1 ∧ Below be w' wr ∧ Rec g n i p l E P E1 P1 ∧ ArrBack g n k i p l)
        case atStart => exact ⟨p0, [], E, P, rfl, htop0, rfl, hE, hP, Below.refl _ _, hstart.out.1, hstart.out.2⟩
        case round =>
          obtain ⟨p, l, E1, P1, hgk, hpn, rfl, hE1, hP1, hB1, hR, hA⟩ := hrel
          have GK : Aside (gk = n - p) := hgk
          clear hgk
          have ht1 := textAt_below ht hB1 hbt
          have h01 : ∀ q, p ≤ q → E1 q = -1 := fun q hq => by rw [(hR.hi q hq).1]; exact h0 q (by have := hR.lt; omega)
          clear ht hE hP
          go_wp2_with fail
          refine (hv1 bt off n cap be bp p δ g E1 P1 (i : Int) _ hn ht1 hE1 hP1 hbt hbe h01 hpn hk).mono ?_
          rintro e w2 ⟨E2, P2, hE2, hP2, hB2, hres⟩
          have hB12 := hB1.trans hB2
          have ht2 := textAt_below ht1 hB2 hbt
          clear h01 hE1 hP1 hB1 hB2 ht1
          rcases hres with rfl | ⟨j, rfl, V⟩
          · go_wp2_with fail
            go_ret2
            exact tres_no hE2 hP2 hB12
          · have hjl := V.val.lt
            obtain ⟨q, hq⟩ := Sk.ex g n j hjl.2
            have hqle := hq.le
            have hqtop := hq.top
            go_wp2_with fail
            refine (zzWS_any bt off n cap j q g _ hn ht2 hq).mono ?_
            rintro e w3 ⟨rfl, rfl⟩
            by_cases hqn : q < n
            · have hcq := ht2 q hqn
              by_cases h93 : g q = 93
              · have A := hA.done V.val hq hqn h93
                have R := (hR.value V (hq.delim (by rw [h93]; rfl))).adv (j := q + 1) (by omega) h0
                have k93 : (g q == 93) = true := beq_iff_eq.2 h93
                clear hv1 hA hR V h93
                go_wp2_with fail
                go_ret2
                exact tres_yes (q + 1) hE2 hP2 hB12 ⟨_, A, R⟩
              · have k93 : (g q == 93) = false := beq_eq_false_iff_ne.2 h93
                by_cases h44 : g q = 44
                · have k44 : (g q != 44) = false := by rw [bne_eq_false_iff_eq]; exact h44
                  obtain ⟨p2, hp2⟩ := Sk.ex g n (q + 1) hqn
                  have hp2le := hp2.le
                  have hp2top := hp2.top
                  have A := hA.next V.val hq hqn h44 hp2
                  have R := (hR.value V (hq.delim (by rw [h44]; rfl))).adv (j := p2) (by omega) h0
                  clear hv1 hA hR V h93 h44
                  go_wp2_with fail
                  refine (zzWS_any bt off n cap (q + 1) p2 g _ hn ht2 hp2).mono ?_
                  rintro e w4 ⟨rfl, rfl⟩
                  go_wp2_with fail
                  go_roundg (n - p2)
                  case measure => rw [GK.out]; omega
                  case rel => exact ⟨p2, _, E2, P2, rfl, hp2top, rfl, hE2, hP2, hB12, R, A⟩
                · have k44 : (g q != 44) = true := by rw [bne_iff_ne]; exact h44
                  clear hv1 hA hR V h93 h44
                  go_wp2_with fail
                  go_ret2
                  exact tres_no hE2 hP2 hB12
            · clear hv1 hA hR V
              go_wp2_with fail
              go_ret2
              exact tres_no hE2 hP2 hB12
      · have z1 : decide ((p0 : Int) < (n : Int)) = false := by simp; omega
        go_wp2_with fail
        go_loopg [12] (n - p0) (fun c x wr => ∃ (p : Nat) (l : List (Nat × Nat)) (E1 P1 : Nat → Int), c = n - p ∧ p ≤ n ∧ x = .int .i64 (p : Int) ∧ TabAt wr be n E1 ∧ TabAt wr bp n P1 ∧ Below be w' wr ∧ Rec g n i p l E P E1 P1 ∧ ArrBack g n k i p l)
        case atStart => exact ⟨p0, [], E, P, rfl, htop0, rfl, hE, hP, Below.refl _ _, hstart.out.1, hstart.out.2⟩
        case round =>
          obtain ⟨p, l, E1, P1, hgk, hpn, rfl, hE1, hP1, hB1, hR, hA⟩ := hrel
          have GK : Aside (gk = n - p) := hgk
          clear hgk
          have ht1 := textAt_below ht hB1 hbt
          have h01 : ∀ q, p ≤ q → E1 q = -1 := fun q hq => by rw [(hR.hi q hq).1]; exact h0 q (by have := hR.lt; omega)
          clear ht hE hP
          go_wp2_with fail
          refine (hv1 bt off n cap be bp p δ g E1 P1 (i : Int) _ hn ht1 hE1 hP1 hbt hbe h01 hpn hk).mono ?_
          rintro e w2 ⟨E2, P2, hE2, hP2, hB2, hres⟩
          have hB12 := hB1.trans hB2
          have ht2 := textAt_below ht1 hB2 hbt
          clear h01 hE1 hP1 hB1 hB2 ht1
          rcases hres with rfl | ⟨j, rfl, V⟩
          · go_wp2_with fail
            go_ret2
            exact tres_no hE2 hP2 hB12
          · have hjl := V.val.lt
            obtain ⟨q, hq⟩ := Sk.ex g n j hjl.2
            have hqle := hq.le
            have hqtop := hq.top
            go_wp2_with fail
            refine (zzWS_any bt off n cap j q g _ hn ht2 hq).mono ?_
            rintro e w3 ⟨rfl, rfl⟩
            by_cases hqn : q < n
            · have hcq := ht2 q hqn
              by_cases h93 : g q = 93
              · have A := hA.done V.val hq hqn h93
                have R := (hR.value V (hq.delim (by rw [h93]; rfl))).adv (j := q + 1) (by omega) h0
                have k93 : (g q == 93) = true := beq_iff_eq.2 h93
                clear hv1 hA hR V h93
                go_wp2_with fail
                go_ret2
                exact tres_yes (q + 1) hE2 hP2 hB12 ⟨_, A, R⟩
              · have k93 : (g q == 93) = false := beq_eq_false_iff_ne.2 h93
                by_cases h44 : g q = 44
                · have k44 : (g q != 44) = false := by rw [bne_eq_false_iff_eq]; exact h44
                  obtain ⟨p2, hp2⟩ := Sk.ex g n (q + 1) hqn
                  have hp2le := hp2.le
                  have hp2top := hp2.top
                  have A := hA.next V.val hq hqn h44 hp2
                  have R := (hR.value V (hq.delim (by rw [h44]; rfl))).adv (j := p2) (by omega) h0
                  clear hv1 hA hR V h93 h44
                  go_wp2_with fail
                  refine (zzWS_any bt off n cap (q + 1) p2 g _ hn ht2 hp2).mono ?_
                  rintro e w4 ⟨rfl, rfl⟩
                  go_wp2_with fail
                  go_roundg (n - p2)
                  case measure => rw [GK.out]; omega
                  case rel => exact ⟨p2, _, E2, P2, rfl, hp2top, rfl, hE2, hP2, hB12, R, A⟩
                · have k44 : (g q != 44) = true := by rw [bne_iff_ne]; exact h44
                  clear hv1 hA hR V h93 h44
                  go_wp2_with fail
                  go_ret2
                  exact tres_no hE2 hP2 hB12
            · clear hv1 hA hR V
              go_wp2_with fail
              go_ret2
              exact tres_no hE2 hP2 hB12
  · go_enter Try.func31, Try.ntmps31
    go_wp2_with fail
    go_ret2
    exact tres_no hE hP (Below.refl _ _)
end Go.Proofs.Qxb6603692a
