import Derived.Test.Qxb6603692aRows
import Derived.WalkKit
import Derived.ProofKit
import Derived.OpenShut
import Derived.ShutString
import Derived.Test.Qxb6603692aRuns
import Derived.Below
import Derived.ChangeOld
namespace Go.Proofs.Qxb6603692a.fnUnquoteMatchesRunModel
open Go.ChangeShapes Go.WideShapes Go.ChangeAt Go.RowKit
open Go.ChangeMaps (open_string shut_string)
set_option linter.unusedVariables false      -- a walk need not use every 'w<i>' (that an integer argument fits its kind)

theorem own : ownKnob Try.prog.godebug = none := by kernel_rfl

/-! ### STEP 1: THE WALK: the Go text returns true. 'Grown w w'': the world has at most new blocks (Derived/RowKit3.lean). Part the cases AHEAD of 'go_enter' where a test parts the walk; take each callee by a contract of your own. -/
set_option maxHeartbeats 400000 in
/-- The bound on the lengths: a bool, and nothing turns. -/
theorem bytes8 (d : ByteArray) (w : World) (h1 : d.size ≤ maxLen) :
    Calls Try.prog 8 #[.string d] w fun e w' => (∃ t, e = .returned (.bool t)) ∧ w' = w := by
  unfold maxLen at h1
  go_enter Try.func8, Try.ntmps8
  go_wp2
  all_goals (go_ret; exact ⟨⟨_, rfl⟩, rfl⟩)

set_option maxHeartbeats 400000 in
theorem zzunquote (s : ByteArray) (X : ByteArray) (b : Bool) (w : World) (hs : s.size ≤ 1048576) (hX : Hid (X = ⟨((uq s).getD []).toArray⟩)) (hb : Hid (b = (uq s).isSome)) :
    Calls Try.prog 9 #[.string s] w fun e w' => e = .returned (.tuple #[.string X, .bool b]) ∧ Below w.heap.size w w' := by
  have k := unquote_any s (uq s) w hs rfl
  unfold Ans at k
  rw [← hX.out, ← hb.out] at k
  go_enter Try.func9, Try.ntmps9
  go_wp2_with fail
  refine k.mono ?_
  rintro e w1 ⟨rfl, hB⟩
  go_wp2_with fail
  go_ret2
  exact ⟨rfl, hB⟩

theorem zzruns (s : ByteArray) (X : ByteArray) (b : Bool) (w : World) (hs : s.size ≤ 1048576) (hX : Hid (X = ⟨((uq s).getD []).toArray⟩)) (hb : Hid (b = (uq s).isSome)) :
    Calls Try.prog 10 #[.string s] w fun e w' => e = .returned (.tuple #[.string X, .bool b]) ∧ Below w.heap.size w w' := by
  have k := runs_any s (uq s) w hs rfl
  unfold Ans at k
  rw [← hX.out, ← hb.out] at k
  exact k

set_option maxHeartbeats 400000 in
theorem walk (a0 : ByteArray) (w0 : a0.size ≤ maxLen) (w : World) :
    Calls Try.prog 3 #[.string a0] w fun e w' => e = .returned (.bool true) ∧ Below w.heap.size w w' := by
  obtain ⟨X, hX⟩ : ∃ X : ByteArray, Hid (X = ⟨((uq a0).getD []).toArray⟩) := ⟨_, rfl⟩
  obtain ⟨b, hb⟩ : ∃ b : Bool, Hid (b = (uq a0).isSome) := ⟨_, rfl⟩
  go_enter Try.func3, Try.ntmps3
  go_wp2_with fail
  refine (bytes8 _ _ w0).mono ?_
  rintro e w' ⟨⟨t, rfl⟩, rfl⟩
  cases t
  · go_wp2
    go_ret
    exact ⟨rfl, Below.refl _ _⟩
  · go_wp2_with fail
    all_goals first | (go_ret; exact ⟨rfl, Below.refl _ _⟩) | skip
    refine (zzunquote a0 X b _ (by omega) hX hb).mono ?_
    rintro e w1 ⟨rfl, hB1⟩
    go_wp2_with fail
    refine (zzruns a0 X b _ (by omega) hX hb).mono ?_
    rintro e w2 ⟨rfl, hB2⟩
    go_wp2_with fail
    go_ret
    exact ⟨by simp, hB1.trans (hB2.mono hB1.size)⟩

/-! ### THE ROW's STEP: WRITTEN OUT: LEAVE IT -/
set_option maxRecDepth 100000 in
theorem lifted (os : Os) (started : os.Started) (H : Type) (enc : TypeId × Value → H) :
    ReturnsInHanded {} Try.checked os 3 .any (Rows.fnUnquoteMatchesRunModelSpec.pre6 enc Try.prog Try.f3 Rows.fnUnquoteMatchesRunModelRow.domain false) (Rows.fnUnquoteMatchesRunModelSpec.post enc Try.prog Try.f3 false true false false) := by
  refine returnsInHanded_of_change (C := Try.checked) own started (by kernel_rfl) Try.func3
    (ChangeSpec.witness6 (enc := enc) (C := Try.checked) false ⟨#[], #[.string ByteArray.empty], []⟩ 8 (by kernel_rfl) (by kernel_rfl) (by kernel_rfl) (by kernel_rfl)) ?_
  intro W base args ds gs before hval0 hW hcnd _
  have hval : ∀ (j : Nat) t v, Try.f3.params[j]? = some t → args[j]? = some v → Value.okWide Try.prog W .any base t v := hval0
  have hW' := hW
  obtain ⟨p, q, hA0, hV, rfl, hfz, hnd⟩ := hW
  have hA : DataW.TrodAll enc Try.prog W 0 (fun _ => true) true Try.f3.params.toList args.toList ds p := hA0
  rw [Try.params3] at hA hval
  obtain ⟨v0, vs0, d0, ds0, p0, q0, hargs, rfl, rfl, h0, r0⟩ := trodAll_cons hA
  obtain ⟨rfl, rfl, rfl⟩ := trodAll_nil r0
  obtain rfl : args = #[v0] := by cases args; simp_all
  obtain ⟨rfl, rfl⟩ := trodVars_none hV
  obtain ⟨a0, rfl, rfl, rfl, w0⟩ := open_string Try.underlying9 (hval 0 9 v0 rfl rfl) h0
  clear hA0 hval0
  simp only [List.append_nil] at hW'
  refine (walk a0 w0 W).mono fun e W' ⟨he, bel⟩ => ?_
  subst he
  exact ⟨_, rfl, _, _, _, [], _, [], hW', trodAll_mk1 (shut_bool Try.underlying4 _), (trodAll_cons_mk (shut_string Try.underlying9 w0) trodAll_mk0), rfl, bel.frame _, fun h => by cases h⟩

theorem over : Rows.fnUnquoteMatchesRunModelRow.holds Try.pinned (OpenSpec.ofChange Rows.fnUnquoteMatchesRunModelSpec) :=
  OpenClaim.holds_of_wide 3 Try.f3 rfl rfl rfl rfl rfl rfl rfl ⟨rfl, rfl, rfl, rfl, rfl⟩ rfl rfl rfl rfl rfl (by kernel_rfl) Try.func3 (by kernel_rfl)
    (of_decide_eq_true (by kernel_rfl)) (by unfold Func.isWrapper; first | (rw [if_pos (by decide +kernel)]; kernel_rfl) | (rw [if_neg (by decide +kernel)]; exact ⟨rfl, rfl⟩))
    (fun os started H enc _ => lifted os started H enc)

/-- ████ THE STATEMENT ████ -/
theorem proved : Rows.FnUnquoteMatchesRunModelSaid :=
  over
#print axioms proved
end Go.Proofs.Qxb6603692a.fnUnquoteMatchesRunModel
