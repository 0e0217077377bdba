import Derived.Test.Qxb6603692aRows
import Derived.WalkKit
import Derived.ProofKit
import Derived.OpenShut
import Derived.ShutString
import Derived.ChangeOld
import Derived.Below
import Derived.Test.Qxb6603692aLaws
import Derived.Test.Qxb6603692aOrder
import Derived.Test.Qxb6603692aArrEls
namespace Go.Proofs.Qxb6603692a.fnArrayElementsListsTheElements
open Go.ChangeShapes Go.WideShapes Go.ChangeAt Go.RowKit
open Go.ChangeMaps (open_string shut_string)
set_option linter.unusedVariables false

theorem own : ownKnob Try.prog.godebug = none := by kernel_rfl
theorem laidOut : laidOutB Try.prog = true := by kernel_rfl

/-- WHAT THE WALK IS TOLD OF A SLICE OF INTEGERS THAT CAME IN: it is nil; or it leads to a row of 'cap' cells, the numbers 'zs' (the first 'len' are its elements, the rest its spare room), each fitting its kind. -/
def IsRow (k : IntKind) (w : World) (a : Option Addr) (len cap : Nat) (zs : List Int) : Prop :=
  (a = none ∧ len = 0 ∧ cap = 0 ∧ zs = []) ∨
  ∃ x, a = some x ∧ len ≤ cap ∧ cap ≤ maxLen ∧ zs.length = cap ∧ (∀ i, i < zs.length → w.cell? (x.add i) = some (.int k (zs.getD i 0))) ∧ ∀ n ∈ zs, (Lit.int k n).wf = true

/-! ### STEP 1: THE WALK: the Go text returns true, AND WRITES NOTHING THAT WAS THERE: 'Below w.heap.size w w'' (Derived/Below.lean: '.refl', '.alloc', '.drew', '.setCell' at a new block, '.trans'). Open each 'IsRow' by 'rcases' AHEAD of 'go_enter'; part every test ahead of the walk. -/
theorem eql37_nil (w : World) : (binOp .eql 37 (.slice none 0 0) (.slice none 0 0)).run Try.prog w = .ok (.bool true) w := by kernel_rfl

theorem tabAt_below {w w' : World} {be n B : Nat} {E : Nat → Int} (h : TabAt w be n E) (hb : Below B w w') (hB : be < B) : TabAt w' be n E :=
  fun p hp => ⟨(hb.cell (p := ⟨be, p, none⟩) hB).trans (h p hp).1, (hb.frozen (p := ⟨be, p, none⟩) hB).trans (h p hp).2⟩

/-- A quiet callee, met behind draws. -/
theorem quiet_more {f : FuncId} {args : Array Value} {w : World} {a n : Nat} {v : Value} (h : Calls Try.prog f args (w.drewN (a + n)) fun e w' => e = .returned v ∧ ∃ m, w' = (w.drewN (a + n)).drewN m) :
    Calls Try.prog f args (w.drewN (a + n)) fun e w'' => e = .returned v ∧ ∃ m, w'' = w.drewN (a + m) :=
  h.mono fun _ _ ⟨he, m, hm⟩ => ⟨he, n + m, by rw [hm, drewN_drewN, Nat.add_assoc]⟩

/-- The k-th element's slice lies where the answer says. -/
theorem elem_at {w : World} {B bt off cap gb cp : Nat} {l : List (Nat × Nat)} {k : Nat} {x : Nat × Nat} (h : w.ownsRow B 26 1 (.slice (some ⟨gb, 0, none⟩) l.length cp) l.length (els bt off cap l)) (hk : l[k]? = some x) : w.cell? ⟨gb, k, none⟩ = some (.slice (some ⟨bt, off + x.1, none⟩) (x.2 - x.1) (cap - x.1)) := by
  have hkl : k < l.length := (List.getElem?_eq_some_iff.1 hk).1
  rw [h.cellAt k (by omega)]
  simp [els, hk, elv]

set_option maxRecDepth 100000 in
set_option maxHeartbeats 1600000 in
theorem walk_nil (w : World) :
    Calls Try.prog 7 #[.slice none 0 0] w fun e w' => e = .returned (.bool true) ∧ Below w.heap.size w w' := by
  go_enter Try.func7, Try.ntmps7
  go_wp2_with fail
  refine (bytes21 _ _ _ _ (Nat.zero_le _)).mono ?_
  rintro e w' ⟨⟨t, rfl⟩, rfl⟩
  cases t
  · go_wp2_with fail
    go_ret
    exact ⟨rfl, Below.refl _ _⟩
  · go_wp2_with fail
    refine (zzClone_nil _).mono ?_
    rintro e w1 ⟨rfl, rfl⟩
    go_wp2_with fail
    refine (zzParse_nil _).mono ?_
    rintro e w2 ⟨rfl, hB⟩
    go_wp2_with fail
    go_ret
    exact ⟨rfl, hB⟩

set_option maxRecDepth 100000 in
set_option maxHeartbeats 3200000 in
theorem walk_row (x : Addr) (n cap : Nat) (g : Nat → Int) (w : World) (hnm : n ≤ maxLen) (hx : ByteRow w x n g) :
    Calls Try.prog 7 #[.slice (some x) n cap] w fun e w' => e = .returned (.bool true) ∧ Below w.heap.size w w' := by
  have hnm2 := hnm
  unfold maxLen at hnm2
  go_enter Try.func7, Try.ntmps7
  go_wp2_with fail
  refine (bytes21 _ _ _ _ hnm).mono ?_
  rintro e w' ⟨⟨t, rfl⟩, rfl⟩
  cases t
  · go_wp2_with fail
    go_ret
    exact ⟨rfl, Below.refl _ _⟩
  · by_cases hn : n ≤ 1048576
    · go_wp2_with fail
      refine (clone_row x n cap g _ hn hx).mono ?_
      rintro e w1 ⟨rfl, ht1, hB1, hs1⟩
      clear hx
      go_wp2_with fail
      refine (zzParse_any _ 0 n n g _ hn ht1 hs1).mono ?_
      rintro e w2 ⟨hB2, hres⟩
      have ht2 := textAt_below ht1 hB2 hs1
      have hB12 := hB1.trans (hB2.mono hB1.size)
      have hs2 : w'.heap.size < w2.heap.size := Nat.lt_of_lt_of_le hs1 hB2.size
      rcases hres with rfl | ⟨top, en, E, P, rfl, hE, hP, htop, hen, V⟩
      · go_wp2_with fail
        go_ret
        exact ⟨rfl, hB12⟩
      · have htn := V.val.start.1
        have hct := ht2 top htn
        simp only [Nat.zero_add] at hct
        by_cases h91 : g top = 91
        · obtain ⟨l, d, hL, hm, ho⟩ := V.arr h91
          have hTab := Tables.of V hL hm ho
          have hme : Aside (∀ a b, (a, b) ∈ l → a < b ∧ b ≤ n) := fun a b h => Val.lt (arrL_mem l hL a b h)
          have hll := arrL_count (fun a b h => Val.lt h) l top en hL
          have k91 : (g top != 91) = false := by rw [bne_eq_false_iff_eq]; exact h91
          clear hm ho V h91
          go_wp2_with fail
          refine (zzArrayElements_any d _ 0 n n top en g l _ hn (Nat.le_refl _) ht2 hs2 htop htn hL).mono ?_
          rintro r w3 ⟨v, B, rfl, hown, hnil, hB3⟩
          have ht3 := textAt_below ht2 hB3 hs2
          have hB13 := hB12.trans (hB3.mono (Nat.le_of_lt hs2))
          have hE3 := tabAt_below hE hB3 (cell_lt (hE top htn).1)
          have hP3 := tabAt_below hP hB3 (cell_lt (hP top htn).1)
          obtain ⟨ao, cp, gb, rfl, hao, hnl⟩ : ∃ (ao : Option Addr) (cp gb : Nat), v = .slice ao l.length cp ∧ Hid (0 < l.length → ao = some ⟨gb, 0, none⟩) ∧ Hid (l.length = 0 → ao = none ∧ cp = 0) := by
            rcases hown.2 with ⟨hv, h0⟩ | ⟨gb, cp, cur, hv, _⟩
            · exact ⟨none, 0, 0, by rw [hv, h0], fun h => by omega, fun _ => ⟨rfl, rfl⟩⟩
            · refine ⟨some ⟨gb, 0, none⟩, cp, gb, hv, fun _ => rfl, fun h => ?_⟩
              have := hnil h
              rw [hv] at this
              cases this
          have hst0 := Counted.start hTab
          have heq := eql37_nil
          clear hE hP ht2 hB3 hnil hL hct
          go_wp2_with fail
          go_loopg [8, 9] (n - (top + 1)) (fun c x y wr => ∃ k s nq : Nat, c = n - s ∧ top < s ∧ s ≤ n ∧ x = .int .i64 (k : Int) ∧ y = .int .i64 (s : Int) ∧ Counted l s k ∧ wr = w3.drewN nq)
          case atStart => exact ⟨0, top + 1, 0, rfl, by omega, by omega, rfl, by go_num, hst0, rfl⟩
          case round =>
            obtain ⟨k, s, nq, hgk, hts, hsn, rfl, rfl, hC, rfl⟩ := hrel
            have GK : Aside (gk = n - s) := hgk
            clear hgk hst0
            have hkl := hC.1
            by_cases hsn2 : s < n
            · have cE := (hE3 s hsn2).1
              have cP := (hP3 s hsn2).1
              by_cases hneg : E s < 0
              · have C2 := hC.skip hTab (.inl hneg)
                go_wp2_with fail
                go_roundg (n - (s + 1))
                case measure => rw [GK.out]; omega
                case rel => exact ⟨k, s + 1, nq, rfl, by omega, by omega, rfl, by go_num, C2, rfl⟩
              · by_cases hpt : P s = (top : Int)
                · obtain ⟨b, hlk, hEb, hklt, C2⟩ := hC.take hTab hts (by omega) hpt
                  have hsb := hme.out s b (List.mem_of_getElem? hlk)
                  have ea := hao.out (by omega)
                  subst ea
                  have hcg : w3.cell? ⟨gb, k, none⟩ = some (.slice (some ⟨w'.heap.size, s, none⟩) (b - s) (n - s)) := by simpa using elem_at hown hlk
                  have ht5 : TextAt w3 w'.heap.size s (b - s) (fun i => g (s + i)) := fun i hi => by
                    have := ht3 (s + i) (by omega)
                    simpa using this
                  rw [hEb] at cE
                  rw [hpt] at cP
                  have z1 : decide ((l.length : Int) ≤ (k : Int)) = false := by simp; omega
                  have z2 : (k : Int) < (l.length : Int) := by omega
                  have z3 : (0 : Int) ≤ (k : Int) := by omega
                  have z4 : (s : Int) < (n : Int) := by omega
                  have z5 : (0 : Int) ≤ (s : Int) := by omega
                  have z6 : (s : Int) ≤ (b : Int) := by omega
                  have z7 : (b : Int) ≤ (n : Int) := by omega
                  have z8 : ¬ n = s := by omega
                  clear hneg hEb hpt hlk hown
                  go_wp2_with fail
                  go_quiet ((go_at_call 19; exact quiet_more (zzSame_self _ s (b - s) (n - s) (n - s) (fun i => g (s + i)) _ (by omega) (textAt_drewN ht5 _))))
                  go_wp2_with fail
                  go_roundg (n - (s + 1))
                  case measure => rw [GK.out]; omega
                  case rel => exact ⟨k + 1, s + 1, _, rfl, by omega, by omega, by go_num, by go_num, C2, (by first | rfl | exact drewN_drewN w3 _ _)⟩
                · have C2 := hC.skip hTab (.inr hpt)
                  have kp : (P s != (top : Int)) = true := by rw [bne_iff_ne]; exact hpt
                  clear hpt
                  go_wp2_with fail
                  go_roundg (n - (s + 1))
                  case measure => rw [GK.out]; omega
                  case rel => exact ⟨k, s + 1, nq, rfl, by omega, by omega, rfl, by go_num, C2, rfl⟩
            · have hse : s = n := by omega
              subst hse
              have hkd := hC.done hTab
              by_cases hl0 : l.length = 0
              · obtain ⟨rfl, rfl⟩ := hnl.out hl0
                have hk0 : k = 0 := by omega
                subst hk0
                clear hkd
                go_wp2_with fail
                go_ret
                exact ⟨rfl, below_drewN hB13 _⟩
              · have kz : ((k : Int) == 0) = false := beq_eq_false_iff_ne.2 (by omega)
                have kk : ((k : Int) == (l.length : Int)) = true := beq_iff_eq.2 (by omega)
                clear hkd
                go_wp2_with fail
                go_ret
                exact ⟨rfl, below_drewN hB13 _⟩
        · have k91 : (g top != 91) = true := by rw [bne_iff_ne]; exact h91
          clear V h91
          go_wp2_with fail
          go_ret
          exact ⟨rfl, hB12⟩
    · go_wp2_with fail
      go_ret
      exact ⟨rfl, Below.refl _ _⟩

theorem walk (a0 : Option Addr) (len0 cap0 : Nat) (z0 : List Int) (w : World) (w0 : IsRow .u8 w a0 len0 cap0 z0) :
    Calls Try.prog 7 #[.slice a0 len0 cap0] w fun e w' => e = .returned (.bool true) ∧ Below w.heap.size w w' := by
  rcases w0 with ⟨rfl, rfl, rfl, rfl⟩ | ⟨x, rfl, hl, hm, hz, hc, hwz⟩
  · exact walk_nil w
  · exact walk_row x len0 cap0 (fun i => z0.getD i 0) w (by omega) (fun i hi => hc i (by omega))

/-! ### THE ROW's STEP: WRITTEN OUT: LEAVE IT -/
set_option maxRecDepth 100000 in
theorem lifted (os : Os) (started : os.Started) (H : Type) (enc : TypeId × Value → H) :
    ReturnsInHanded {} Try.checked os 7 .any (Rows.fnArrayElementsListsTheElementsSpec.pre6 enc Try.prog Try.f7 Rows.fnArrayElementsListsTheElementsRow.domain false) (Rows.fnArrayElementsListsTheElementsSpec.post enc Try.prog Try.f7 false true false false) := by
  refine returnsInHanded_of_change (C := Try.checked) own started (by kernel_rfl) Try.func7
    (ChangeSpec.witness6 (enc := enc) (C := Try.checked) false ⟨#[], #[.slice none 0 0], []⟩ 8 (by kernel_rfl) (by kernel_rfl) (by kernel_rfl) (by kernel_rfl)) ?_
  intro W base args ds gs before hval0 hW hcnd _
  have hval : ∀ (j : Nat) t v, Try.f7.params[j]? = some t → args[j]? = some v → Value.okWide Try.prog W .any base t v := hval0
  have hW' := hW
  obtain ⟨p, q, hA0, hV, rfl, hfz, hnd⟩ := hW
  have hA : DataW.TrodAll enc Try.prog W 0 (fun _ => true) true Try.f7.params.toList args.toList ds p := hA0
  rw [Try.params7] at hA hval
  obtain ⟨v0, vs0, d0, ds0, p0, q0, hargs, rfl, rfl, h0, r0⟩ := trodAll_cons hA
  obtain ⟨rfl, rfl, rfl⟩ := trodAll_nil r0
  obtain rfl : args = #[v0] := by cases args; simp_all
  obtain ⟨rfl, rfl⟩ := trodVars_none hV
  obtain ⟨a0, len0, cap0, rfl⟩ := okWide_slice Try.underlying26 (hval 0 26 v0 rfl rfl)
  have k0 := h0
  have lt0 : ∀ x ∈ p0, x.block < W.heap.size := by obtain ⟨m, hm⟩ := k0; exact DataW.trod_lt m _ _ _ hm
  obtain ⟨z0, w0⟩ : ∃ zs, IsRow .u8 W a0 len0 cap0 zs := by
    obtain ⟨fuel, hf⟩ := h0
    rcases open_ints Try.underlying26 Try.underlying5 (by kernel_rfl) hf with ⟨hcs, _⟩ | ⟨x, l, c, zs, hcs, _, hl, hm, hz, _, hcell, hwz⟩
    · simp [Value.cells] at hcs
      obtain ⟨rfl, rfl, rfl⟩ := hcs
      exact ⟨[], .inl ⟨rfl, rfl, rfl, rfl⟩⟩
    · simp [Value.cells] at hcs
      obtain ⟨rfl, rfl, rfl⟩ := hcs
      exact ⟨zs, .inr ⟨_, rfl, hl, hm, by simpa using hz, hcell, hwz⟩⟩
  clear hA0 hval0
  refine (walk a0 len0 cap0 z0 W w0).mono fun e W' ⟨he, bel⟩ => ?_
  subst he
  exact ⟨_, rfl, _, _, _, [], _, [], hW', trodAll_mk1 (shut_bool Try.underlying4 _), (trodAll_cons_mk (Below.trod laidOut (by kernel_rfl) (of_decide_eq_true (by kernel_rfl)) k0 bel lt0) trodAll_mk0), rfl, bel.frame _, fun h => by cases h⟩

theorem over : Rows.fnArrayElementsListsTheElementsRow.holds Try.pinned (OpenSpec.ofChange Rows.fnArrayElementsListsTheElementsSpec) :=
  OpenClaim.holds_of_wide 7 Try.f7 rfl rfl rfl rfl rfl rfl rfl ⟨rfl, rfl, rfl, rfl, rfl⟩ rfl rfl rfl rfl rfl (by kernel_rfl) Try.func7 (by kernel_rfl)
    (of_decide_eq_true (by kernel_rfl)) (by unfold Func.isWrapper; first | (rw [if_pos (by decide +kernel)]; kernel_rfl) | (rw [if_neg (by decide +kernel)]; exact ⟨rfl, rfl⟩))
    (fun os started H enc _ => lifted os started H enc)

/-- ████ THE STATEMENT ████ -/
theorem proved : Rows.FnArrayElementsListsTheElementsSaid := over
#print axioms proved
end Go.Proofs.Qxb6603692a.fnArrayElementsListsTheElements
