import Derived.Test.Qxb6603692aUnquote
import Derived.Laws.IdiomStrings
namespace Go.Proofs.Qxb6603692a
open Go.RowKit

/-- The slice v owns the bytes acc. -/
def OwnB (B : Nat) (g cap : Nat) (acc : List UInt8) (w : World) : Prop := w.ownsRow B 5 1 (.slice (some ⟨g, 0, none⟩) acc.length cap) acc.length (Lib.byteCells acc)

/-- What an append of one byte leaves. -/
theorem ownB_snoc {B : Nat} {acc : List UInt8} {v' : Value} {w1 : World} {c : UInt8} {n : Int} (hc : (c.toNat : Int) = n) (h : w1.ownsRow B 5 1 v' (acc.length + 1) (Lib.byteCells acc ++ [.int .u8 n])) :
    ∃ g' cap', v' = .slice (some ⟨g', 0, none⟩) (acc ++ [c]).length cap' ∧ OwnB B g' cap' (acc ++ [c]) w1 := by
  rw [byteCells_snoc acc c n hc] at h
  have hl : (acc ++ [c]).length = acc.length + 1 := by simp
  rcases h.2 with ⟨_, h0⟩ | ⟨g', cap', cur, hv, _⟩
  · omega
  · subst hv
    refine ⟨g', cap', by rw [hl], ?_⟩
    unfold OwnB
    rw [hl]
    exact h

theorem below_append {B : Nat} {w wr w1 : World} {o : Obj} {g cap : Nat} {acc : List UInt8} (hB : Below B w wr) (hsz : B ≤ wr.heap.size) (hown : OwnB B g cap acc wr) (hg : (wr.alloc o).grownBy w1 (Value.ownBlock (.slice (some ⟨g, 0, none⟩) acc.length cap))) : Below B w w1 :=
  (hB.alloc hsz _).grown hg (by simp; omega) (fun k hk => (World.ownsRow.lt hown k hk).1)

/-- 'string(out)' -/
theorem ownB_string {B g cap : Nat} {acc : List UInt8} {w : World} (h : OwnB B g cap acc w) : (convert 26 9 (.slice (some ⟨g, 0, none⟩) acc.length cap)).run Try.prog w = .ok (.string ⟨acc.toArray⟩) w := by
  refine run_convert_bytes_back w 26 9 5 ⟨g, 0, none⟩ cap acc Try.underlying26 Try.underlying5 Try.underlying9 (fun j hj => ?_)
  have k := World.ownsRow.cellAt h (j := j) (by omega)
  simp [Lib.byteCells] at k
  rw [show (⟨g, 0, none⟩ : Addr).add j = ⟨g, j, none⟩ from by simp [Addr.add]; intro e; rw [e]]
  rw [k]
  simp [hj]

theorem make26 (n : Nat) (h : n ≤ 1048576) (w : World) : ∃ w1, (Instr.makeSlice 26 (.int .i64 0) (.int .i64 (n : Int))).run Try.prog w = .ok (.slice (some ⟨w.heap.size, 0, none⟩) 0 n) w1 ∧ OwnB w.heap.size w.heap.size n [] w1 ∧ Below w.heap.size w w1 := by
  obtain ⟨i, hi, hz0, hz1, hz2⟩ := info_parts info5
  obtain ⟨w1, h1, h2, h3⟩ := run_make_own (P := Try.prog) w w.heap.size 26 5 i _ 1 Try.underlying26 hi hz0 hz1 .i64 .i64 n (by rw [hz2]; omega) (by unfold maxLen; omega) (Nat.le_refl _)
  exact ⟨w1, h1, h2, (Below.refl _ _).grown h3 (Nat.le_refl _) (fun k hk => by cases hk)⟩

set_option maxRecDepth 100000 in
set_option maxHeartbeats 1600000 in
theorem runs_any (s : ByteArray) (o : Option (List UInt8)) (w : World) (hs : s.size ≤ 1048576) (O : Hid (uq s = o)) :
    Calls Try.prog 10 #[.string s] w fun e w' => Ans o e ∧ Below w.heap.size w w' := by
  obtain ⟨i0, hi, hz0, hz1, hz2⟩ := info_parts info5
  by_cases h2 : 2 ≤ s.size
  · by_cases c0 : ((s[0]'(by omega)).toNat : Int) = 34
    · by_cases c1 : ((s[s.size - 1]'(by omega)).toNat : Int) = 34
      · have O2 : Hid (unq (rest s 1) = o) := by
          rw [← O.out, uq_in s h2 ((u8_int _ 34 (by decide)).1 c0) ((u8_int _ 34 (by decide)).1 c1)]; exact rfl
        clear O
        obtain ⟨w0, hmk, hown0, hB0⟩ := make26 s.size hs w
        go_enter Try.func10, Try.ntmps10
        go_wp2
        clear c0 c1 hmk
        go_loopw [5, 6] (fun v i wr => ∃ (k : Nat) (acc : List UInt8) (g cap : Nat), 1 ≤ k ∧ k + 1 ≤ s.size ∧ i = .int .i64 k ∧ v = .slice (some ⟨g, 0, none⟩) acc.length cap ∧ OwnB w.heap.size g cap acc wr ∧ Below w.heap.size w wr ∧ acc.length ≤ k ∧ Reads o acc s k)
          (fun _ i _ => s.size - (intOf i).toNat)
        case atStart => exact ⟨1, [], _, _, by omega, by omega, rfl, rfl, hown0, hB0, by simp, by rw [← O2.out]; exact Reads.start s⟩
        case round =>
          obtain ⟨k, acc, g, cap, hk1, hk2, rfl, rfl, hown, hB, hacc, R⟩ := hrel
          have hsz := hB.size
          by_cases hlt : k + 1 < s.size
          · by_cases e92 : ((s[k]'(by omega)).toNat : Int) = 92
            · have x0 : decide ((k : Int) < (s.size : Int) - 1) = true := by simp; omega
              go_wp2_with fail
              go_loop [8] (fun jv => ∃ r : Nat, k + r + 1 ≤ s.size ∧ jv = .int .i64 ((k : Int) + (r : Int)) ∧ Hid (∀ j (h : j < s.size), k ≤ j → j < k + r → s[j] = 92)) (fun jv => s.size - (intOf jv).toNat)
              case atStart => exact ⟨0, by omega, by simp, fun j h h1 h2 => by omega⟩
              case round =>
                obtain ⟨r, hr, rfl, A⟩ := hrel
                by_cases hj : k + r + 1 < s.size
                · by_cases f92 : ((s[k + r]'(by omega)).toNat : Int) = 92
                  · have A2 := run_on A.out (by omega) f92
                    have A3 : Hid (∀ j (h : j < s.size), k ≤ j → j < k + (r + 1) → s[j] = 92) := A2
                    clear A2
                    go_wp2_with fail
                    go_round
                    case rel => exact ⟨r + 1, by omega, by go_num, A3⟩
                    case measure => simp [intOf]; omega
                  · have y92 : (((s[k + r]'(by omega)).toNat : Int) == 92) = false := beq_eq_false_iff_ne.2 f92
                    have hr1 : 1 ≤ r := Nat.pos_of_ne_zero (fun e => by subst e; exact f92 e92)
                    have x1 : decide ((k : Int) + (r : Int) < (s.size : Int) - 1) = true := by simp; omega
                    by_cases f34 : ((s[k + r]'(by omega)).toNat : Int) = 34
                    · have y34 : (((s[k + r]'(by omega)).toNat : Int) == 34) = true := beq_iff_eq.2 f34
                      by_cases hp : r % 2 = 0
                      · obtain ⟨m, hm⟩ : ∃ m, r = 2 * m := ⟨r / 2, by omega⟩
                        have hm1 : 2 * m ≤ r := by omega
                        have hm2 : r ≤ 2 * m := by omega
                        have pz : (((k : Int) + (r : Int) - (k : Int)) % 2 == 0) = true := beq_iff_eq.2 (by omega)
                        have pn : (((k : Int) + (r : Int) - (k : Int)) % 2 != 0) = false := by rw [bne_eq_false_iff_eq]; omega
                        have N : Hid (o = none) := R.run_even_quote hj A.out hm f34
                        clear hm hp f34 f92 e92
                        go_wp2_with fail
                        go_ret2
                        exact ⟨ans_none N, hB⟩
                      · obtain ⟨m, hm⟩ : ∃ m, r = 2 * m + 1 := ⟨r / 2, by omega⟩
                        have hm1 : 2 * m + 1 ≤ r := by omega
                        have hm2 : r ≤ 2 * m + 1 := by omega
                        have pz : (((k : Int) + (r : Int) - (k : Int)) % 2 == 0) = false := beq_eq_false_iff_ne.2 (by omega)
                        have pn : (((k : Int) + (r : Int) - (k : Int)) % 2 != 0) = true := by rw [bne_iff_ne]; omega
                        have S := R.run_odd_quote hj A.out hm f34
                        clear hm hp f34 f92 e92 A R
                        go_wp2_with fail
                        go_loopw [5, 10] (fun v c wq => ∃ (q : Nat) (acc2 : List UInt8) (g2 cap2 : Nat), q ≤ m ∧ c = .int .i64 q ∧ v = .slice (some ⟨g2, 0, none⟩) acc2.length cap2 ∧ OwnB w.heap.size g2 cap2 acc2 wq ∧ Below w.heap.size w wq ∧ acc2.length ≤ acc.length + q ∧ Hid (acc2 = acc ++ List.replicate q 92))
                          (fun _ c _ => m - (intOf c).toNat)
                        case atStart => exact ⟨0, acc, _, _, by omega, rfl, rfl, hown, hB, by omega, by simp [Hid]⟩
                        case round =>
                          obtain ⟨q, acc2, g2, cap2, hq, rfl, rfl, hown2, hB2, hacc2, HA⟩ := hrel
                          have hsz2 := hB2.size
                          clear hown hB
                          by_cases hqm : q < m
                          · go_wp2_with (at_builtin; refine wpList_append_own _ rfl _ _ 26 rfl w.heap.size 5 i0 (.int .u8 0) 1 1 Try.underlying26 hi hz0 hz1 hz2 rfl (by decide) _ _ _ rfl (World.ownsRow.alloc hown2 _) ⟨wr.heap.size, 0, none⟩ 1 1 [.int .u8 92] rfl rfl ?c1 ?c2 ?c3 ?c4 ?c5 ?_)
                            case c1 => exact cell_one_new _ _ _
                            case c2 => intro u hu; simp at hu; subst hu; rfl
                            case c3 => unfold maxLen; omega
                            case c4 => omega
                            case c5 => simp; omega
                            intro v' w1 hown' hgrow hnn
                            clear hnn
                            obtain ⟨acc3, hl, HA3, g', cap', rfl, hown1⟩ : ∃ acc3 : List UInt8, acc3.length ≤ acc2.length + 1 ∧ Hid (acc3 = acc ++ List.replicate (q + 1) 92) ∧ ∃ g' cap', v' = .slice (some ⟨g', 0, none⟩) acc3.length cap' ∧ OwnB w.heap.size g' cap' acc3 w1 :=
                              ⟨acc2 ++ [92], by simp, by rw [HA.out]; simp [Hid, List.replicate_succ'], ownB_snoc (c := 92) rfl hown'⟩
                            have hB1 := below_append hB2 hsz2 hown2 hgrow
                            clear hown' hgrow hown2
                            go_wp2_with fail
                            go_roundw
                            case rel => exact ⟨q + 1, acc3, _, _, by omega, by go_num, rfl, hown1, hB1, by omega, HA3⟩
                            case measure => simp [intOf]; omega
                          · have hqe : q = m := by omega
                            subst hqe
                            go_wp2_with (at_builtin; refine wpList_append_own _ rfl _ _ 26 rfl w.heap.size 5 i0 (.int .u8 0) 1 1 Try.underlying26 hi hz0 hz1 hz2 rfl (by decide) _ _ _ rfl (World.ownsRow.alloc hown2 _) ⟨wr.heap.size, 0, none⟩ 1 1 [.int .u8 34] rfl rfl ?d1 ?d2 ?d3 ?d4 ?d5 ?_)
                            case d1 => exact cell_one_new _ _ _
                            case d2 => intro u hu; simp at hu; subst hu; rfl
                            case d3 => unfold maxLen; omega
                            case d4 => omega
                            case d5 => simp; omega
                            intro v' w1 hown' hgrow hnn
                            clear hnn
                            obtain ⟨acc3, hl, S3, g', cap', rfl, hown1⟩ : ∃ acc3 : List UInt8, acc3.length ≤ acc2.length + 1 ∧ Reads o acc3 s (k + r + 1) ∧ ∃ g' cap', v' = .slice (some ⟨g', 0, none⟩) acc3.length cap' ∧ OwnB w.heap.size g' cap' acc3 w1 :=
                              ⟨acc2 ++ [34], by simp, by rw [HA.out]; exact S, ownB_snoc (c := 34) rfl hown'⟩
                            have hB1 := below_append hB2 hsz2 hown2 hgrow
                            clear hown' hgrow hown2
                            go_wp2_with fail
                            go_roundw
                            case rel => exact ⟨k + r + 1, acc3, _, _, by omega, by omega, by go_num, rfl, hown1, hB1, by omega, S3⟩
                            case measure => simp [intOf]; omega
                    · have y34 : (((s[k + r]'(by omega)).toNat : Int) == 34) = false := beq_eq_false_iff_ne.2 f34
                      by_cases hp : r % 2 = 0
                      · obtain ⟨m, hm⟩ : ∃ m, r = 2 * m := ⟨r / 2, by omega⟩
                        have hm1 : 2 * m ≤ r := by omega
                        have hm2 : r ≤ 2 * m := by omega
                        have pz : (((k : Int) + (r : Int) - (k : Int)) % 2 == 0) = true := beq_iff_eq.2 (by omega)
                        have pn : (((k : Int) + (r : Int) - (k : Int)) % 2 != 0) = false := by rw [bne_eq_false_iff_eq]; omega
                        have S := R.run_even hr A.out hm
                        clear hm hp f34 f92 e92 A R
                        go_wp2_with fail
                        go_loopw [5, 11] (fun v c wq => ∃ (q : Nat) (acc2 : List UInt8) (g2 cap2 : Nat), q ≤ m ∧ c = .int .i64 q ∧ v = .slice (some ⟨g2, 0, none⟩) acc2.length cap2 ∧ OwnB w.heap.size g2 cap2 acc2 wq ∧ Below w.heap.size w wq ∧ acc2.length ≤ acc.length + q ∧ Hid (acc2 = acc ++ List.replicate q 92))
                          (fun _ c _ => m - (intOf c).toNat)
                        case atStart => exact ⟨0, acc, _, _, by omega, rfl, rfl, hown, hB, by omega, by simp [Hid]⟩
                        case round =>
                          obtain ⟨q, acc2, g2, cap2, hq, rfl, rfl, hown2, hB2, hacc2, HA⟩ := hrel
                          have hsz2 := hB2.size
                          clear hown hB
                          by_cases hqm : q < m
                          · go_wp2_with (at_builtin; refine wpList_append_own _ rfl _ _ 26 rfl w.heap.size 5 i0 (.int .u8 0) 1 1 Try.underlying26 hi hz0 hz1 hz2 rfl (by decide) _ _ _ rfl (World.ownsRow.alloc hown2 _) ⟨wr.heap.size, 0, none⟩ 1 1 [.int .u8 92] rfl rfl ?c1 ?c2 ?c3 ?c4 ?c5 ?_)
                            case c1 => exact cell_one_new _ _ _
                            case c2 => intro u hu; simp at hu; subst hu; rfl
                            case c3 => unfold maxLen; omega
                            case c4 => omega
                            case c5 => simp; omega
                            intro v' w1 hown' hgrow hnn
                            clear hnn
                            obtain ⟨acc3, hl, HA3, g', cap', rfl, hown1⟩ : ∃ acc3 : List UInt8, acc3.length ≤ acc2.length + 1 ∧ Hid (acc3 = acc ++ List.replicate (q + 1) 92) ∧ ∃ g' cap', v' = .slice (some ⟨g', 0, none⟩) acc3.length cap' ∧ OwnB w.heap.size g' cap' acc3 w1 :=
                              ⟨acc2 ++ [92], by simp, by rw [HA.out]; simp [Hid, List.replicate_succ'], ownB_snoc (c := 92) rfl hown'⟩
                            have hB1 := below_append hB2 hsz2 hown2 hgrow
                            clear hown' hgrow hown2
                            go_wp2_with fail
                            go_roundw
                            case rel => exact ⟨q + 1, acc3, _, _, by omega, by go_num, rfl, hown1, hB1, by omega, HA3⟩
                            case measure => simp [intOf]; omega
                          · have hqe : q = m := by omega
                            subst hqe
                            have S3 : Reads o acc2 s (k + r) := by rw [HA.out]; exact S
                            go_wp2_with fail
                            go_roundw
                            case rel => exact ⟨k + r, acc2, _, _, by omega, by omega, by go_num, rfl, hown2, hB2, by omega, S3⟩
                            case measure => simp [intOf]; omega
                      · obtain ⟨m, hm⟩ : ∃ m, r = 2 * m + 1 := ⟨r / 2, by omega⟩
                        have hm1 : 2 * m + 1 ≤ r := by omega
                        have hm2 : r ≤ 2 * m + 1 := by omega
                        have pz : (((k : Int) + (r : Int) - (k : Int)) % 2 == 0) = false := beq_eq_false_iff_ne.2 (by omega)
                        have pn : (((k : Int) + (r : Int) - (k : Int)) % 2 != 0) = true := by rw [bne_iff_ne]; omega
                        have N : Hid (o = none) := R.run_odd_other hj A.out hm f34 f92
                        clear hm hp f34 f92 e92
                        go_wp2_with fail
                        go_ret2
                        exact ⟨ans_none N, hB⟩
                · have x1 : decide ((k : Int) + (r : Int) < (s.size : Int) - 1) = false := by simp; omega
                  have hr1 : 1 ≤ r := by omega
                  by_cases hp : r % 2 = 0
                  · obtain ⟨m, hm⟩ : ∃ m, r = 2 * m := ⟨r / 2, by omega⟩
                    have hm1 : 2 * m ≤ r := by omega
                    have hm2 : r ≤ 2 * m := by omega
                    have pz : (((k : Int) + (r : Int) - (k : Int)) % 2 == 0) = true := beq_iff_eq.2 (by omega)
                    have pn : (((k : Int) + (r : Int) - (k : Int)) % 2 != 0) = false := by rw [bne_eq_false_iff_eq]; omega
                    have S := R.run_even hr A.out hm
                    clear hm hp e92 A R
                    go_wp2_with fail
                    go_loopw [5, 11] (fun v c wq => ∃ (q : Nat) (acc2 : List UInt8) (g2 cap2 : Nat), q ≤ m ∧ c = .int .i64 q ∧ v = .slice (some ⟨g2, 0, none⟩) acc2.length cap2 ∧ OwnB w.heap.size g2 cap2 acc2 wq ∧ Below w.heap.size w wq ∧ acc2.length ≤ acc.length + q ∧ Hid (acc2 = acc ++ List.replicate q 92))
                      (fun _ c _ => m - (intOf c).toNat)
                    case atStart => exact ⟨0, acc, _, _, by omega, rfl, rfl, hown, hB, by omega, by simp [Hid]⟩
                    case round =>
                      obtain ⟨q, acc2, g2, cap2, hq, rfl, rfl, hown2, hB2, hacc2, HA⟩ := hrel
                      have hsz2 := hB2.size
                      clear hown hB
                      by_cases hqm : q < m
                      · go_wp2_with (at_builtin; refine wpList_append_own _ rfl _ _ 26 rfl w.heap.size 5 i0 (.int .u8 0) 1 1 Try.underlying26 hi hz0 hz1 hz2 rfl (by decide) _ _ _ rfl (World.ownsRow.alloc hown2 _) ⟨wr.heap.size, 0, none⟩ 1 1 [.int .u8 92] rfl rfl ?c1 ?c2 ?c3 ?c4 ?c5 ?_)
                        case c1 => exact cell_one_new _ _ _
                        case c2 => intro u hu; simp at hu; subst hu; rfl
                        case c3 => unfold maxLen; omega
                        case c4 => omega
                        case c5 => simp; omega
                        intro v' w1 hown' hgrow hnn
                        clear hnn
                        obtain ⟨acc3, hl, HA3, g', cap', rfl, hown1⟩ : ∃ acc3 : List UInt8, acc3.length ≤ acc2.length + 1 ∧ Hid (acc3 = acc ++ List.replicate (q + 1) 92) ∧ ∃ g' cap', v' = .slice (some ⟨g', 0, none⟩) acc3.length cap' ∧ OwnB w.heap.size g' cap' acc3 w1 :=
                          ⟨acc2 ++ [92], by simp, by rw [HA.out]; simp [Hid, List.replicate_succ'], ownB_snoc (c := 92) rfl hown'⟩
                        have hB1 := below_append hB2 hsz2 hown2 hgrow
                        clear hown' hgrow hown2
                        go_wp2_with fail
                        go_roundw
                        case rel => exact ⟨q + 1, acc3, _, _, by omega, by go_num, rfl, hown1, hB1, by omega, HA3⟩
                        case measure => simp [intOf]; omega
                      · have hqe : q = m := by omega
                        subst hqe
                        have S3 : Reads o acc2 s (k + r) := by rw [HA.out]; exact S
                        go_wp2_with fail
                        go_roundw
                        case rel => exact ⟨k + r, acc2, _, _, by omega, by omega, by go_num, rfl, hown2, hB2, by omega, S3⟩
                        case measure => simp [intOf]; omega
                  · obtain ⟨m, hm⟩ : ∃ m, r = 2 * m + 1 := ⟨r / 2, by omega⟩
                    have hm1 : 2 * m + 1 ≤ r := by omega
                    have hm2 : r ≤ 2 * m + 1 := by omega
                    have pz : (((k : Int) + (r : Int) - (k : Int)) % 2 == 0) = false := beq_eq_false_iff_ne.2 (by omega)
                    have pn : (((k : Int) + (r : Int) - (k : Int)) % 2 != 0) = true := by rw [bne_iff_ne]; omega
                    have N : Hid (o = none) := R.run_odd_end hr (by omega) A.out hm
                    clear hm hp e92
                    go_wp2_with fail
                    go_ret2
                    exact ⟨ans_none N, hB⟩
            · by_cases hbad : ((s[k]'(by omega)).toNat : Int) = 34 ∨ ((s[k]'(by omega)).toNat : Int) < 32 ∨ 126 < ((s[k]'(by omega)).toNat : Int)
              · have N : Hid (o = none) := R.bad hlt e92 hbad
                clear hown
                rcases hbad with hb | hb | hb
                · go_wp2_with fail
                  all_goals go_ret2
                  all_goals exact ⟨ans_none N, hB⟩
                · go_wp2_with fail
                  all_goals go_ret2
                  all_goals exact ⟨ans_none N, hB⟩
                · go_wp2_with fail
                  all_goals go_ret2
                  all_goals exact ⟨ans_none N, hB⟩
              · have hb1 : ¬ ((s[k]'(by omega)).toNat : Int) = 34 := fun e => hbad (.inl e)
                have hb2 : 32 ≤ ((s[k]'(by omega)).toNat : Int) := by omega
                have hb3 : ((s[k]'(by omega)).toNat : Int) ≤ 126 := by omega
                clear hbad
                have S := R.plain hlt e92 hb1 hb2 hb3
                have x34 : (((s[k]'(by omega)).toNat : Int) == 34) = false := beq_eq_false_iff_ne.2 hb1
                have x92 : (((s[k]'(by omega)).toNat : Int) != 92) = true := bne_iff_ne.2 e92
                go_wp2_with (at_builtin; refine wpList_append_own _ rfl _ _ 26 rfl w.heap.size 5 i0 (.int .u8 0) 1 1 Try.underlying26 hi hz0 hz1 hz2 rfl (by decide) _ _ _ rfl (World.ownsRow.alloc hown _) ⟨wr.heap.size, 0, none⟩ 1 1 [.int .u8 ((s[k]'(by omega)).toNat : Int)] rfl rfl ?c1 ?c2 ?c3 ?c4 ?c5 ?_)
                case c1 => exact cell_one_new _ _ _
                case c2 => intro u hu; simp at hu; subst hu; rfl
                case c3 => unfold maxLen; omega
                case c4 => omega
                case c5 => simp; omega
                intro v' w1 hown' hgrow hnn
                clear hnn
                obtain ⟨acc', hl, S', g', cap', rfl, hown1⟩ : ∃ acc' : List UInt8, acc'.length ≤ acc.length + 1 ∧ Reads o acc' s (k + 1) ∧ ∃ g' cap', v' = .slice (some ⟨g', 0, none⟩) acc'.length cap' ∧ OwnB w.heap.size g' cap' acc' w1 :=
                  ⟨_, by simp, S, ownB_snoc (c := s[k]'(by omega)) rfl hown'⟩
                have hB1 := below_append hB hsz hown hgrow
                clear hown' hgrow hown e92 hb1 hb2 hb3 x34 x92 S R
                go_wp2_with fail
                go_roundw
                case rel => exact ⟨k + 1, acc', _, _, by omega, by omega, by go_num, rfl, hown1, hB1, by omega, S'⟩
                case measure => simp [intOf]; omega
          · have N : Hid (o = some acc) := R.done (by omega)
            have hcv := ownB_string hown
            go_wp2_with fail
            go_ret2
            exact ⟨ans_some N, hB⟩
      · have O2 : Hid (o = none) := by
          rw [← O.out]; exact uq_shut s h2 (fun e => c1 ((u8_int _ 34 (by decide)).2 e))
        have x1 : (((s[s.size - 1]'(by omega)).toNat : Int) != 34) = true := bne_iff_ne.2 c1
        go_enter Try.func10, Try.ntmps10
        go_wp2
        go_ret2
        exact ⟨ans_none O2, Below.refl _ _⟩
    · have O2 : Hid (o = none) := by
        rw [← O.out]; exact uq_open s h2 (fun e => c0 ((u8_int _ 34 (by decide)).2 e))
      go_enter Try.func10, Try.ntmps10
      go_wp2
      go_ret2
      exact ⟨ans_none O2, Below.refl _ _⟩
  · have O2 : Hid (o = none) := by
      rw [← O.out]; exact uq_short s h2
    go_enter Try.func10, Try.ntmps10
    go_wp2
    go_ret2
    exact ⟨ans_none O2, Below.refl _ _⟩
end Go.Proofs.Qxb6603692a
