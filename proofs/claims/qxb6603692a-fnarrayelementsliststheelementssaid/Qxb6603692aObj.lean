import Derived.Test.Qxb6603692aTab
namespace Go.Proofs.Qxb6603692a
open Go.RowKit

/-- Whatever is read from the member at p on makes an object. -/
def ObjBack (g : Nat → Int) (n k op p : Nat) : Prop := ∀ a b m e, Mem (Val g n k) g n p a b → ObjT (Val g n k) g n m b e → ObjL (Val g n k) g n op e

theorem ObjBack.first {g : Nat → Int} {n k op p : Nat} (h : Sk g n (op + 1) p) : ObjBack g n k op p := fun a b m _ hm ht => .inr ⟨p, a, b, m, h, hm, ht⟩
theorem ObjBack.next {g : Nat → Int} {n k op p a b q p2 : Nat} (h : ObjBack g n k op p) (hm : Mem (Val g n k) g n p a b) (hq : Sk g n b q) (hqn : q < n) (hc : g q = 44) (hp2 : Sk g n (q + 1) p2) : ObjBack g n k op p2 := fun a2 b2 m e hm2 ht2 =>
  h a b (m + 1) e hm ⟨q, p2, a2, b2, hq, hqn, hc, hp2, hm2, ht2⟩
theorem ObjBack.done {g : Nat → Int} {n k op p a b q : Nat} (h : ObjBack g n k op p) (hm : Mem (Val g n k) g n p a b) (hq : Sk g n b q) (hqn : q < n) (hc : g q = 125) : ObjL (Val g n k) g n op (q + 1) :=
  h a b 0 (q + 1) hm ⟨q, hq, hqn, hc, rfl⟩

set_option maxRecDepth 100000 in
set_option maxHeartbeats 3200000 in
theorem object_ok (k : Nat) (hv : 1 ≤ k → ValueOk k) : ObjectOk k := by
  intro bt off n cap be bp i δ g E P w hn ht hE hP hbt hbe h0 hi hk
  by_cases hd : δ ≤ 10000
  · have hv1 := hv (by omega)
    clear hv
    obtain ⟨p0, hp0⟩ := Sk.ex g n (i + 1) (by omega)
    have hle0 := hp0.le
    have htop0 := hp0.top
    go_enter Try.func30, Try.ntmps30
    go_wp2_with fail
    refine (zzWS_any bt off n cap (i + 1) p0 g _ hn ht hp0).mono ?_
    rintro e w' ⟨rfl, rfl⟩
    by_cases hshut : p0 < n ∧ g p0 = 125
    · obtain ⟨hp0n, h125⟩ := hshut
      have hc0 := ht p0 hp0n
      have A : ObjL (Val g n k) g n i (p0 + 1) := .inl ⟨p0, hp0, hp0n, h125, rfl⟩
      have R := (Rec.begin g n i E P).adv (j := p0 + 1) (by omega) h0
      clear hv1
      go_wp2_with fail
      go_ret2
      exact tres_yes (p0 + 1) hE hP (Below.refl _ _) ⟨A, [], R⟩
    · have hways : (p0 < n ∧ w'.cell? ⟨bt, off + p0, none⟩ = some (.int .u8 (g p0)) ∧ (g p0 == 125) = false) ∨ ¬ p0 < n := by
        by_cases h : p0 < n
        · exact .inl ⟨h, ht p0 h, beq_eq_false_iff_ne.2 (fun e => hshut ⟨h, e⟩)⟩
        · exact .inr h
      clear hshut
      rcases hways with ⟨hp0n, hc0, k125⟩ | hp0n
      · have hstart : Hid (Rec g n i p0 [] E P E P ∧ ObjBack g n k i p0) := ⟨(Rec.begin g n i E P).adv (j := p0) (by omega) h0, ObjBack.first hp0⟩
        have z1 : decide ((p0 : Int) < (n : Int)) = true := by simp; omega
        go_wp2_with fail
        go_loopg [12] (n - p0) (fun c x wr => ∃ (p : Nat) (l : List (Nat × Nat)) (E1 P1 : Nat → Int), c = n - p ∧ p ≤ n ∧ x = .int .i64 (p : Int) ∧ TabAt wr be n E1 ∧ TabAt wr bp n P1 ∧ Below be w' wr ∧ Rec g n i p l E P E1 P1 ∧ ObjBack g n k i p)
        case atStart => exact ⟨p0, [], E, P, rfl, htop0, rfl, hE, hP, Below.refl _ _, hstart.out.1, hstart.out.2⟩
        case round =>
          obtain ⟨p, l, E1, P1, hgk, hpn, rfl, hE1, hP1, hB1, hR, hA⟩ := hrel
          have GK : Aside (gk = n - p) := hgk
          clear hgk hstart
          have ht1 := textAt_below ht hB1 hbt
          clear ht hE hP hc0 k125 z1
          by_cases hq0 : p < n ∧ g p = 34
          · obtain ⟨hpn1, h34⟩ := hq0
            have hcp := ht1 p hpn1
            have k34 : (g p != 34) = false := by rw [bne_eq_false_iff_eq]; exact h34
            have H34 : Hid (g p = 34) := h34
            clear h34
            go_wp2_with fail
            refine (zzString_any bt off n cap p g _ hn ht1 hpn1).mono ?_
            rintro e w2 ⟨hres, rfl⟩
            rcases hres with rfl | ⟨kb, rfl, hS⟩
            · go_wp2_with fail
              go_ret2
              exact tres_no hE1 hP1 hB1
            · have hSl := hS.lt
              obtain ⟨c, hc⟩ := Sk.ex g n kb hSl.2.2
              have hcle := hc.le
              have hctop := hc.top
              go_wp2_with fail
              refine (zzWS_any bt off n cap kb c g _ hn ht1 hc).mono ?_
              rintro e w3 ⟨rfl, rfl⟩
              by_cases hcol : c < n ∧ g c = 58
              · obtain ⟨hcn, h58⟩ := hcol
                have hcc := ht1 c hcn
                have k58 : (g c != 58) = false := by rw [bne_eq_false_iff_eq]; exact h58
                have H58 : Hid (g c = 58) := h58
                clear h58
                obtain ⟨a, ha⟩ := Sk.ex g n (c + 1) hcn
                have hale := ha.le
                have hatop := ha.top
                have hRa := hR.adv (j := a) (by omega) h0
                have h01 : ∀ q, a ≤ q → E1 q = -1 := fun q hq => by rw [(hRa.hi q hq).1]; exact h0 q (by have := hRa.lt; omega)
                go_wp2_with fail
                refine (zzWS_any bt off n cap (c + 1) a g _ hn ht1 ha).mono ?_
                rintro e w4 ⟨rfl, rfl⟩
                go_wp2_with fail
                refine (hv1 bt off n cap be bp a δ g E1 P1 (i : Int) _ hn ht1 hE1 hP1 hbt hbe h01 hatop hk).mono ?_
                rintro e w5 ⟨E2, P2, hE2, hP2, hB2, hres⟩
                have hB12 := hB1.trans hB2
                have ht2 := textAt_below ht1 hB2 hbt
                clear h01 hE1 hP1 hB1 hB2 ht1 hcp hcc
                rcases hres with rfl | ⟨j, rfl, V⟩
                · go_wp2_with fail
                  go_ret2
                  exact tres_no hE2 hP2 hB12
                · have hjl := V.val.lt
                  obtain ⟨q, hq⟩ := Sk.ex g n j hjl.2
                  have hqle := hq.le
                  have hqtop := hq.top
                  have M : Mem (Val g n k) g n p a j := ⟨kb, c, hpn1, H34.out, hS, hc, hcn, H58.out, ha, V.val⟩
                  go_wp2_with fail
                  refine (zzWS_any bt off n cap j q g _ hn ht2 hq).mono ?_
                  rintro e w6 ⟨rfl, rfl⟩
                  by_cases hqn : q < n
                  · have hcq := ht2 q hqn
                    by_cases h125 : g q = 125
                    · have A := hA.done M hq hqn h125
                      have R := (hRa.value V (hq.delim (by rw [h125]; rfl))).adv (j := q + 1) (by omega) h0
                      have k125 : (g q == 125) = true := beq_iff_eq.2 h125
                      clear hv1 hA hR V h125 hRa M
                      go_wp2_with fail
                      go_ret2
                      exact tres_yes (q + 1) hE2 hP2 hB12 ⟨A, _, R⟩
                    · have k125 : (g q == 125) = false := beq_eq_false_iff_ne.2 h125
                      by_cases h44 : g q = 44
                      · have k44 : (g q != 44) = false := by rw [bne_eq_false_iff_eq]; exact h44
                        obtain ⟨p2, hp2⟩ := Sk.ex g n (q + 1) hqn
                        have hp2le := hp2.le
                        have hp2top := hp2.top
                        have A := hA.next M hq hqn h44 hp2
                        have R := (hRa.value V (hq.delim (by rw [h44]; rfl))).adv (j := p2) (by omega) h0
                        clear hv1 hA hR V h125 h44 hRa M
                        go_wp2_with fail
                        refine (zzWS_any bt off n cap (q + 1) p2 g _ hn ht2 hp2).mono ?_
                        rintro e w7 ⟨rfl, rfl⟩
                        go_wp2_with fail
                        go_roundg (n - p2)
                        case measure => rw [GK.out]; omega
                        case rel => exact ⟨p2, _, E2, P2, rfl, hp2top, rfl, hE2, hP2, hB12, R, A⟩
                      · have k44 : (g q != 44) = true := by rw [bne_iff_ne]; exact h44
                        clear hv1 hA hR V h125 h44 hRa M
                        go_wp2_with fail
                        go_ret2
                        exact tres_no hE2 hP2 hB12
                  · clear hv1 hA hR V hRa M
                    go_wp2_with fail
                    go_ret2
                    exact tres_no hE2 hP2 hB12
              · by_cases hcn : c < n
                · have hcc := ht1 c hcn
                  have k58 : (g c != 58) = true := by rw [bne_iff_ne]; exact fun e => hcol ⟨hcn, e⟩
                  clear hcol hv1 hA hR
                  go_wp2_with fail
                  go_ret2
                  exact tres_no hE1 hP1 hB1
                · clear hcol hv1 hA hR
                  go_wp2_with fail
                  go_ret2
                  exact tres_no hE1 hP1 hB1
          · by_cases hpn1 : p < n
            · have hcp := ht1 p hpn1
              have k34 : (g p != 34) = true := by rw [bne_iff_ne]; exact fun e => hq0 ⟨hpn1, e⟩
              clear hq0 hv1 hA hR
              go_wp2_with fail
              go_ret2
              exact tres_no hE1 hP1 hB1
            · clear hq0 hv1 hA hR
              go_wp2_with fail
              go_ret2
              exact tres_no hE1 hP1 hB1
      · have z1 : decide ((p0 : Int) < (n : Int)) = false := by simp; omega
        clear hv1
        go_wp2_with fail
        refine wp_loop_rounds 1 ?_
        rw [rounds_succ]
        go_wp2_with fail
        go_ret2
        exact tres_no hE hP (Below.refl _ _)
  · go_enter Try.func30, Try.ntmps30
    go_wp2_with fail
    go_ret2
    exact tres_no hE hP (Below.refl _ _)
end Go.Proofs.Qxb6603692a
