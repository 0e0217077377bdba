import Derived.Test.Qxb6603605aOpt
namespace Go.Proofs.Qxb6603605a
open Go.RowKit

theorem neq72_nil (w : World) : (binOp .neq 72 .nilFunc .nilFunc).run Try.prog w = .ok (.bool false) w := by kernel_rfl
theorem neq72_fn (w : World) : (binOp .neq 72 (.func (.func 28) #[] #[]) .nilFunc).run Try.prog w = .ok (.bool true) w := by kernel_rfl
theorem eql76_nil (w : World) : (binOp .eql 76 (.slice none 0 0) (.slice none 0 0)).run Try.prog w = .ok (.bool true) w := by kernel_rfl
theorem eql76_not (a : Addr) (n c : Nat) (w : World) : (binOp .eql 76 (.slice (some a) n c) (.slice none 0 0)).run Try.prog w = .ok (.bool false) w := by kernel_rfl
theorem info130 : (Try.prog.info? 130).map (fun i => (i.zero, i.size, i.bytes)) = some (some (.agg #[.int .u64 0, .int .u64 0, .pointer none, .int .u8 0]), 4, 32) := by kernel_rfl

/-- 'make([]netip.Prefix, n)': a new block. -/
theorem make76 (n : Nat) (h : n ≤ 65536) : ∃ C : Array Value, ∀ w : World, (Instr.makeSlice 76 (.int .i64 (n : Int)) (.int .i64 (n : Int))).run Try.prog w = .ok (.slice (some ⟨w.heap.size, 0, none⟩) n n) (w.alloc (.cells C 130)) := by
  obtain ⟨i, hi, hz0, hz1, hz2⟩ := info_parts info130
  refine ⟨madeCells (Value.cells (.agg #[.int .u64 0, .int .u64 0, .pointer none, .int .u8 0])) (n * 4), fun w => ?_⟩
  have k := run_make (P := Try.prog) w 76 130 i _ Try.underlying76 hi hz0 .i64 .i64 (n : Int) (n : Int) (by omega) (by omega) (by rw [hz2]; omega) (by omega)
  simpa only [Int.toNat_natCast, hz1] using k

set_option maxHeartbeats 1600000 in
theorem opt_neg (a0 a1 a2 : Bool) (a3 : Int) (b : ByteArray) (w : World) (h3 : a3 < 0) (h3' : -9223372036854775808 ≤ a3) :
    Calls Try.prog 21 #[.bool a0, .bool a1, .bool a2, .int .i64 a3, .string b] w fun e w' => e = .returned (.tuple #[.bool a0, .bool a2, .bool true, .int .i64 0, .string b]) ∧ Grown w w' := by
  have q1 := neq75_nil
  have q2 := neq75_fn
  have q3 := neq72_nil
  have q4 := neq72_fn
  have q5 := eql76_nil
  cases a0 <;> cases a1 <;> cases a2
  all_goals
    go_enter Try.func21, Try.ntmps21
    go_wp2_with fail
    refine (fao_any _ _ _ _ _ _ _ _ (by first | exact .inl rfl | exact .inr ⟨_, rfl⟩) (by first | exact .inl rfl | exact .inr ⟨_, rfl⟩)).mono ?_
    rintro e w1 ⟨rfl, hg⟩
    go_wp2_with fail
    go_quiet (fail)
    go_wp2_with fail
    exact bodyPost_ret (by simp [results, Try.results21, go_sem]) rfl ⟨rfl, grown_drewN _ ((grown_of_alloc hg).alloc _ _)⟩

set_option maxHeartbeats 1600000 in
theorem opt_pos (a0 a1 a2 : Bool) (n : Nat) (b : ByteArray) (w : World) (h3 : n ≤ 65536) :
    Calls Try.prog 21 #[.bool a0, .bool a1, .bool a2, .int .i64 (n : Int), .string b] w fun e w' => e = .returned (.tuple #[.bool a0, .bool a2, .bool false, .int .i64 (n : Int), .string b]) ∧ Grown w w' := by
  have q1 := neq75_nil
  have q2 := neq75_fn
  have q3 := neq72_nil
  have q4 := neq72_fn
  have q5 := eql76_not
  obtain ⟨C, q6⟩ := make76 n h3
  cases a0 <;> cases a1 <;> cases a2
  all_goals
    go_enter Try.func21, Try.ntmps21
    go_wp2_with fail
    refine (fao_any _ _ _ _ _ _ _ _ (by first | exact .inl rfl | exact .inr ⟨_, rfl⟩) (by first | exact .inl rfl | exact .inr ⟨_, rfl⟩)).mono ?_
    rintro e w1 ⟨rfl, hg⟩
    go_wp2_with fail
    go_quiet (fail)
    go_wp2_with fail
    exact bodyPost_ret (by simp [results, Try.results21, go_sem]) rfl ⟨rfl, grown_drewN _ ((grown_of_alloc (grown_of_alloc hg)).alloc _ _)⟩

set_option maxHeartbeats 400000 in
/-- The bound on the lengths: a bool, and nothing turns. -/
theorem bytes20 (a b c : Bool) (i : Int) (d : ByteArray) (w : World) (h1 : d.size ≤ maxLen) :
    Calls Try.prog 20 #[.bool a, .bool b, .bool c, .int .i64 i, .string d] w fun e w' => (∃ t, e = .returned (.bool t)) ∧ w' = w := by
  unfold maxLen at h1
  go_enter Try.func20, Try.ntmps20
  go_wp2
  all_goals (go_ret; exact ⟨⟨_, rfl⟩, rfl⟩)
end Go.Proofs.Qxb6603605a
