import Derived.Test.Qxb6603692aRows
import Derived.WalkKit
import Derived.ProofKit
import Derived.OpenShut
import Derived.ShutString
import Derived.ChangeOld
import Derived.Below
import Derived.Test.Qxb6603692aLaws
import Derived.Test.Qxb6603692aWin
namespace Go.Proofs.Qxb6603692a.fnNextOnItsOwnAnswerTakesItWhole
open Go.ChangeShapes Go.WideShapes Go.ChangeAt Go.RowKit
open Go.ChangeMaps (open_string shut_string)
set_option linter.unusedVariables false

theorem own : ownKnob Try.prog.godebug = none := by kernel_rfl
theorem laidOut : laidOutB Try.prog = true := by kernel_rfl

/-- WHAT THE WALK IS TOLD OF A SLICE OF INTEGERS THAT CAME IN: it is nil; or it leads to a row of 'cap' cells, the numbers 'zs' (the first 'len' are its elements, the rest its spare room), each fitting its kind. -/
def IsRow (k : IntKind) (w : World) (a : Option Addr) (len cap : Nat) (zs : List Int) : Prop :=
  (a = none ∧ len = 0 ∧ cap = 0 ∧ zs = []) ∨
  ∃ x, a = some x ∧ len ≤ cap ∧ cap ≤ maxLen ∧ zs.length = cap ∧ (∀ i, i < zs.length → w.cell? (x.add i) = some (.int k (zs.getD i 0))) ∧ ∀ n ∈ zs, (Lit.int k n).wf = true

/-! ### STEP 1: THE WALK: the Go text returns true, AND WRITES NOTHING THAT WAS THERE: 'Below w.heap.size w w'' (Derived/Below.lean: '.refl', '.alloc', '.drew', '.setCell' at a new block, '.trans'). Open each 'IsRow' by 'rcases' AHEAD of 'go_enter'; part every test ahead of the walk. -/
set_option maxRecDepth 100000 in
set_option maxHeartbeats 1600000 in
theorem walk_nil (a1 : Int) (w : World) (hb : -9223372036854775808 ≤ a1 ∧ a1 ≤ 9223372036854775807) :
    Calls Try.prog 6 #[.slice none 0 0, .int .i64 a1] w fun e w' => e = .returned (.bool true) ∧ Below w.heap.size w w' := by
  obtain ⟨hb1, hb2⟩ := hb
  go_enter Try.func6, Try.ntmps6
  go_wp2_with fail
  refine (bytes20 _ _ _ _ _ (Nat.zero_le _)).mono ?_
  rintro e w' ⟨⟨t, rfl⟩, rfl⟩
  cases t
  · go_wp2_with fail
    go_ret
    exact ⟨rfl, Below.refl _ _⟩
  · by_cases h0 : a1 < 0 ∨ 0 < a1
    · rcases h0 with h0 | h0
      all_goals
        go_wp2_with fail
        go_ret
        exact ⟨rfl, Below.refl _ _⟩
    · have h00 : a1 = 0 := by omega
      subst h00
      clear h0
      go_wp2_with fail
      refine (zzClone_nil _).mono ?_
      rintro e w1 ⟨rfl, rfl⟩
      go_wp2_with fail
      refine (zzParse_nil _).mono ?_
      rintro e w2 ⟨rfl, hB⟩
      go_wp2_with fail
      go_ret
      exact ⟨rfl, hB⟩

set_option maxRecDepth 100000 in
set_option maxHeartbeats 1600000 in
theorem walk_row (x : Addr) (n cap : Nat) (g : Nat → Int) (a1 : Int) (w : World) (hb : -9223372036854775808 ≤ a1 ∧ a1 ≤ 9223372036854775807) (hnm : n ≤ maxLen) (hx : ByteRow w x n g) :
    Calls Try.prog 6 #[.slice (some x) n cap, .int .i64 a1] w fun e w' => e = .returned (.bool true) ∧ Below w.heap.size w w' := by
  obtain ⟨hb1, hb2⟩ := hb
  have hnm2 := hnm
  unfold maxLen at hnm2
  go_enter Try.func6, Try.ntmps6
  go_wp2_with fail
  refine (bytes20 _ _ _ _ _ hnm).mono ?_
  rintro e w' ⟨⟨t, rfl⟩, rfl⟩
  cases t
  · go_wp2_with fail
    go_ret
    exact ⟨rfl, Below.refl _ _⟩
  · by_cases hn : n ≤ 1048576
    · by_cases h0 : a1 < 0 ∨ (n : Int) < a1
      · rcases h0 with h0 | h0
        · go_wp2_with fail
          go_ret
          exact ⟨rfl, Below.refl _ _⟩
        · go_wp2_with fail
          all_goals go_ret
          all_goals exact ⟨rfl, Below.refl _ _⟩
      · obtain ⟨p, rfl⟩ := Int.eq_ofNat_of_zero_le (by omega : 0 ≤ a1)
        have hpn : p ≤ n := by omega
        have hpn1 : (p : Int) ≤ (n : Int) := by omega
        clear h0
        go_wp2_with fail
        refine (clone_row x n cap g _ hn hx).mono ?_
        rintro e w1 ⟨rfl, ht1, hB1, hs1⟩
        clear hx
        go_wp2_with fail
        refine (zzParse_any _ 0 n n g _ hn ht1 hs1).mono ?_
        rintro e w2 ⟨hB2, hres⟩
        have ht2 := textAt_below ht1 hB2 hs1
        have hB12 := hB1.trans (hB2.mono hB1.size)
        have hs2 : w'.heap.size < w2.heap.size := Nat.lt_of_lt_of_le hs1 hB2.size
        rcases hres with rfl | ⟨top, en, E, P, rfl, hE, hP, htop, hen, V⟩
        · go_wp2_with fail
          go_ret
          exact ⟨rfl, hB12⟩
        · obtain ⟨s, hs⟩ := Sk.ex g n p hpn
          have hsle := hs.le
          have hstop := hs.top
          go_wp2_with fail
          refine (zzWS_any _ 0 n n p s g _ hn ht2 hs).mono ?_
          rintro e w3 ⟨rfl, rfl⟩
          by_cases hsn : s < n
          · have hcE := (hE s hsn).1
            by_cases hneg : E s < 0
            · clear V
              go_wp2_with fail
              go_ret
              exact ⟨rfl, hB12⟩
            · obtain ⟨k, b, hEb, hV, hD⟩ := V.all hen (by omega : 0 ≤ E s)
              have hVl := hV.lt
              have hst := hV.start
              have hVw : Val (shift g s) (b - s) k 0 (b - s) := Val.win (n := n) (by omega) k 0 (b - s) (Nat.le_refl _) (by rw [Nat.add_zero, show s + (b - s) = b from by omega]; exact hV)
              have hSk0 : Sk (shift g s) (b - s) 0 0 := ⟨Nat.le_refl _, Nat.zero_le _, fun q h1 h2 => by omega, fun _ => (endS_no hst.2).1⟩
              have hD0 : Delim (shift g s) (b - s) (b - s) := fun h => by omega
              rw [hEb] at hcE
              clear hneg hEb V hE hP hst
              go_wp2_with fail
              refine (zzNext_any k _ 0 n n p s b g _ hn (Nat.le_refl _) ht2 hs2 hs hV hD).mono ?_
              rintro e w4 ⟨rfl, hB4⟩
              have ht5 : TextAt w4 w'.heap.size s (b - s) (shift g s) := fun i hi => by
                have := textAt_below ht2 hB4 hs2 (s + i) (by omega)
                simpa [shift] using this
              have hB5 := hB12.trans (hB4.mono (Nat.le_of_lt hs2))
              have hs5 : w'.heap.size < w4.heap.size := Nat.lt_of_lt_of_le hs2 hB4.size
              have kz : (((b - s : Nat) : Int) == 0) = false := beq_eq_false_iff_ne.2 (by omega)
              have y1 : (s : Int) ≤ (b : Int) := by omega
              have y2 : (b : Int) ≤ (n : Int) := by omega
              go_wp2_with fail
              refine (zzNext_any k _ s (b - s) (n - s) 0 0 (b - s) (shift g s) _ (by omega) (by omega) ht5 hs5 hSk0 hVw hD0).mono ?_
              rintro e w6 ⟨rfl, hB6⟩
              have ht6 := textAt_below ht5 hB6 hs5
              have hB7 := hB5.trans (hB6.mono (Nat.le_of_lt hs5))
              go_wp2_with fail
              refine (zzSame_self _ s (b - s) (n - s) (n - s) (shift g s) _ (by omega) ht6).mono ?_
              rintro e w7 ⟨rfl, nq, rfl⟩
              go_wp2_with fail
              go_ret
              exact ⟨rfl, below_drewN hB7 _⟩
          · clear V
            go_wp2_with fail
            go_ret
            exact ⟨rfl, hB12⟩
    · go_wp2_with fail
      go_ret
      exact ⟨rfl, Below.refl _ _⟩

theorem walk (a0 : Option Addr) (len0 cap0 : Nat) (z0 : List Int) (a1 : Int) (w : World) (w0 : IsRow .u8 w a0 len0 cap0 z0) (w1 : (Lit.int .i64 a1).wf = true) :
    Calls Try.prog 6 #[.slice a0 len0 cap0, .int .i64 a1] w fun e w' => e = .returned (.bool true) ∧ Below w.heap.size w w' := by
  have hb := bounds_i64 w1
  rcases w0 with ⟨rfl, rfl, rfl, rfl⟩ | ⟨x, rfl, hl, hm, hz, hc, hwz⟩
  · exact walk_nil a1 w hb
  · exact walk_row x len0 cap0 (fun i => z0.getD i 0) a1 w hb (by omega) (fun i hi => hc i (by omega))

/-! ### THE ROW's STEP: WRITTEN OUT: LEAVE IT -/
set_option maxRecDepth 100000 in
theorem lifted (os : Os) (started : os.Started) (H : Type) (enc : TypeId × Value → H) :
    ReturnsInHanded {} Try.checked os 6 .any (Rows.fnNextOnItsOwnAnswerTakesItWholeSpec.pre6 enc Try.prog Try.f6 Rows.fnNextOnItsOwnAnswerTakesItWholeRow.domain false) (Rows.fnNextOnItsOwnAnswerTakesItWholeSpec.post enc Try.prog Try.f6 false true false false) := by
  refine returnsInHanded_of_change (C := Try.checked) own started (by kernel_rfl) Try.func6
    (ChangeSpec.witness6 (enc := enc) (C := Try.checked) false ⟨#[], #[.slice none 0 0, .int .i64 0], []⟩ 8 (by kernel_rfl) (by kernel_rfl) (by kernel_rfl) (by kernel_rfl)) ?_
  intro W base args ds gs before hval0 hW hcnd _
  have hval : ∀ (j : Nat) t v, Try.f6.params[j]? = some t → args[j]? = some v → Value.okWide Try.prog W .any base t v := hval0
  have hW' := hW
  obtain ⟨p, q, hA0, hV, rfl, hfz, hnd⟩ := hW
  have hA : DataW.TrodAll enc Try.prog W 0 (fun _ => true) true Try.f6.params.toList args.toList ds p := hA0
  rw [Try.params6] at hA hval
  obtain ⟨v0, vs0, d0, ds0, p0, q0, hargs, rfl, rfl, h0, r0⟩ := trodAll_cons hA
  obtain ⟨v1, vs1, d1, ds1, p1, q1, rfl, rfl, rfl, h1, r1⟩ := trodAll_cons r0
  obtain ⟨rfl, rfl, rfl⟩ := trodAll_nil r1
  obtain rfl : args = #[v0, v1] := by cases args; simp_all
  obtain ⟨rfl, rfl⟩ := trodVars_none hV
  obtain ⟨a0, len0, cap0, rfl⟩ := okWide_slice Try.underlying26 (hval 0 26 v0 rfl rfl)
  have k0 := h0
  have lt0 : ∀ x ∈ p0, x.block < W.heap.size := by obtain ⟨m, hm⟩ := k0; exact DataW.trod_lt m _ _ _ hm
  obtain ⟨z0, w0⟩ : ∃ zs, IsRow .u8 W a0 len0 cap0 zs := by
    obtain ⟨fuel, hf⟩ := h0
    rcases open_ints Try.underlying26 Try.underlying5 (by kernel_rfl) hf with ⟨hcs, _⟩ | ⟨x, l, c, zs, hcs, _, hl, hm, hz, _, hcell, hwz⟩
    · simp [Value.cells] at hcs
      obtain ⟨rfl, rfl, rfl⟩ := hcs
      exact ⟨[], .inl ⟨rfl, rfl, rfl, rfl⟩⟩
    · simp [Value.cells] at hcs
      obtain ⟨rfl, rfl, rfl⟩ := hcs
      exact ⟨zs, .inr ⟨_, rfl, hl, hm, by simpa using hz, hcell, hwz⟩⟩
  obtain ⟨a1, rfl, rfl, rfl, w1⟩ := open_int Try.underlying3 (hval 1 3 v1 rfl rfl) h1
  clear hA0 hval0
  refine (walk a0 len0 cap0 z0 a1 W w0 w1).mono fun e W' ⟨he, bel⟩ => ?_
  subst he
  exact ⟨_, rfl, _, _, _, [], _, [], hW', trodAll_mk1 (shut_bool Try.underlying4 _), (trodAll_cons_mk (Below.trod laidOut (by kernel_rfl) (of_decide_eq_true (by kernel_rfl)) k0 bel lt0) (trodAll_cons_mk (shut_int Try.underlying3 w1) trodAll_mk0)), rfl, bel.frame _, fun h => by cases h⟩

theorem over : Rows.fnNextOnItsOwnAnswerTakesItWholeRow.holds Try.pinned (OpenSpec.ofChange Rows.fnNextOnItsOwnAnswerTakesItWholeSpec) :=
  OpenClaim.holds_of_wide 6 Try.f6 rfl rfl rfl rfl rfl rfl rfl ⟨rfl, rfl, rfl, rfl, rfl⟩ rfl rfl rfl rfl rfl (by kernel_rfl) Try.func6 (by kernel_rfl)
    (of_decide_eq_true (by kernel_rfl)) (by unfold Func.isWrapper; first | (rw [if_pos (by decide +kernel)]; kernel_rfl) | (rw [if_neg (by decide +kernel)]; exact ⟨rfl, rfl⟩))
    (fun os started H enc _ => lifted os started H enc)

/-- ████ THE STATEMENT ████ -/
theorem proved : Rows.FnNextOnItsOwnAnswerTakesItWholeSaid := over
#print axioms proved
end Go.Proofs.Qxb6603692a.fnNextOnItsOwnAnswerTakesItWhole
