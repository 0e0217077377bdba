import Derived.Test.Qxb6603605aProg
import Derived.WalkKit
import Derived.WalkSpells
import Derived.Laws.EntriesVeiled
import Derived.Deep.QuietTactic
import Derived.BigQuiet
namespace Go.Proofs.Qxb6603605a
open Go.RowKit

/-- A function value of this program: nil, or function k. -/
def IsFn (v : Value) : Prop := v = .nilFunc ∨ ∃ k, v = .func (.func k) #[] #[]

set_option maxHeartbeats 400000 in
theorem fao_any (f v0 v1 : Value) (sa : Option Addr) (n c : Nat) (b : ByteArray) (w : World) (hf : IsFn f) (h0 : IsFn v0) :
    Calls Try.prog 29 #[f, .agg #[v0, v1, .slice sa n c, .string b]] w fun e w' => e = .returned (.agg #[v0, f, .slice sa n c, .string b]) ∧ Grown w w' := by
  rcases hf with rfl | ⟨k, rfl⟩ <;> rcases h0 with rfl | ⟨j, rfl⟩
  · go_enter Try.func29, Try.ntmps29
    go_wp2
    refine bodyPost_ret (v := .agg #[.nilFunc, .nilFunc, .slice sa n c, .string b]) (by simp [results, Try.results29, go_sem]) rfl ⟨rfl, ?_⟩
    exact ((Grown.refl _).alloc _ _).alloc _ _
  · go_enter Try.func29, Try.ntmps29
    go_wp2
    refine bodyPost_ret (v := .agg #[.func (.func j) #[] #[], .nilFunc, .slice sa n c, .string b]) (by simp [results, Try.results29, go_sem]) rfl ⟨rfl, ?_⟩
    exact ((Grown.refl _).alloc _ _).alloc _ _
  · go_enter Try.func29, Try.ntmps29
    go_wp2
    refine bodyPost_ret (v := .agg #[.nilFunc, .func (.func k) #[] #[], .slice sa n c, .string b]) (by simp [results, Try.results29, go_sem]) rfl ⟨rfl, ?_⟩
    exact ((Grown.refl _).alloc _ _).alloc _ _
  · go_enter Try.func29, Try.ntmps29
    go_wp2
    refine bodyPost_ret (v := .agg #[.func (.func j) #[] #[], .func (.func k) #[] #[], .slice sa n c, .string b]) (by simp [results, Try.results29, go_sem]) rfl ⟨rfl, ?_⟩
    exact ((Grown.refl _).alloc _ _).alloc _ _
theorem neq75_nil (w : World) : (binOp .neq 75 .nilFunc .nilFunc).run Try.prog w = .ok (.bool false) w := by kernel_rfl
theorem neq75_fn (w : World) : (binOp .neq 75 (.func (.func 27) #[] #[]) .nilFunc).run Try.prog w = .ok (.bool true) w := by kernel_rfl
theorem grown_trans {a b c : World} (h : Grown a b) (k : Grown b c) : Grown a c :=
  ⟨World.keptBut_trans h.1 k.1, fun x => (k.2.1 x).trans (h.2.1 x), Nat.le_trans h.2.2 k.2.2⟩
theorem grown_of_alloc {a c : World} {cs : Array Value} {t : TypeId} (k : Grown (a.alloc (.cells cs t)) c) : Grown a c := grown_trans ((Grown.refl _).alloc _ _) k
theorem grown_drewN {a b : World} (n : Nat) (h : Grown a b) : Grown a (b.drewN n) := h

set_option maxHeartbeats 1600000 in
theorem twice_any (a0 a1 a2 : Bool) (b : ByteArray) (w : World)  :
    Calls Try.prog 23 #[.bool a0, .bool a1, .bool a2, .string b] w fun e w' => e = .returned (.tuple #[.bool a1, .string b]) ∧ Grown w w' := by
  have q1 := neq75_nil
  have q2 := neq75_fn
  cases a0 <;> cases a1 <;> cases a2
  all_goals
    go_enter Try.func23, Try.ntmps23
    go_wp2_with fail
    refine (fao_any _ _ _ _ _ _ _ _ (by first | exact .inl rfl | exact .inr ⟨_, rfl⟩) (by first | exact .inl rfl | exact .inr ⟨_, rfl⟩)).mono ?_
    rintro e w1 ⟨rfl, hg⟩
    go_wp2_with fail
    refine (fao_any _ _ _ _ _ _ _ _ (by first | exact .inl rfl | exact .inr ⟨_, rfl⟩) (by first | exact .inl rfl | exact .inr ⟨_, rfl⟩)).mono ?_
    rintro e w2 ⟨rfl, hg2⟩
    go_wp2_with fail
    go_quiet (fail)
    go_wp2_with fail
    go_ret2
    exact ⟨rfl, grown_drewN _ ((grown_trans (grown_of_alloc hg) hg2).alloc _ _)⟩

set_option maxHeartbeats 400000 in
/-- The bound on the lengths: a bool, and nothing turns. -/
theorem bytes22 (a b c : Bool) (d : ByteArray) (w : World) (h1 : d.size ≤ maxLen) :
    Calls Try.prog 22 #[.bool a, .bool b, .bool c, .string d] w fun e w' => (∃ t, e = .returned (.bool t)) ∧ w' = w := by
  unfold maxLen at h1
  go_enter Try.func22, Try.ntmps22
  go_wp2
  all_goals (go_ret; exact ⟨⟨_, rfl⟩, rfl⟩)
end Go.Proofs.Qxb6603605a
