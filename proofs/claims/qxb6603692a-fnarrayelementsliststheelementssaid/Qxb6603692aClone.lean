import Derived.Test.Qxb6603692aParse
namespace Go.Proofs.Qxb6603692a
open Go.RowKit

theorem cell_lt {w : World} {b o : Nat} {v : Value} (h : w.cell? ⟨b, o, none⟩ = some v) : b < w.heap.size := by
  rcases Nat.lt_or_ge b w.heap.size with h' | h'
  · exact h'
  · simp [World.cell?, Array.getElem?_eq_none h'] at h

theorem eql26_not (a : Addr) (n c : Nat) (w : World) : (binOp .eql 26 (.slice (some a) n c) (.slice none 0 0)).run Try.prog w = .ok (.bool false) w := by kernel_rfl
theorem eql26_nil (w : World) : (binOp .eql 26 (.slice none 0 0) (.slice none 0 0)).run Try.prog w = .ok (.bool true) w := by kernel_rfl

/-- A row of bytes that may be written. -/
def RowAt (w : World) (b n : Nat) (G : Nat → Int) : Prop := ∀ p, p < n → w.cell? ⟨b, p, none⟩ = some (.int .u8 (G p)) ∧ w.frozen? ⟨b, p, none⟩ = false

theorem rowAt_new (w : World) (C : Array Value) (n : Nat) (hC : ∀ p, p < n → C[p]? = some (.int .u8 0)) : RowAt (w.alloc (.cells C 5)) w.heap.size n (fun _ => 0) := by
  intro p hp
  have hb : (w.alloc (.cells C 5)).heap[w.heap.size]? = some (.cells C 5 (0, 0)) := heap_alloc_new w _
  exact ⟨by simp only [World.cell?, hb]; exact hC p hp, by simp only [World.frozen?, hb]; simp⟩

theorem rowAt_set {w : World} {b n : Nat} {G : Nat → Int} (h : RowAt w b n G) (i : Nat) (x : Int) : RowAt (w.setCell ⟨b, i, none⟩ (.int .u8 x)) b n (upd G i x) := by
  intro p hp
  refine ⟨?_, (World.frozen?_setCell _ _ _ _).trans (h p hp).2⟩
  by_cases e : p = i
  · subst e
    rw [upd_same]
    exact World.cell?_setCell_same _ _ _ (h p hp).1
  · rw [upd_other _ _ _ _ e]
    rw [World.cell?_setCell_other _ _ _ _ (by intro h; injection h; omega)]
    exact (h p hp).1

/-- The first k bytes are copied. -/
def copied (g : Nat → Int) (k : Nat) : Nat → Int := fun p => if p < k then g p else 0
theorem copied_succ (g : Nat → Int) (k : Nat) : upd (copied g k) k (g k) = copied g (k + 1) := by
  funext p
  unfold upd copied
  by_cases e : p = k
  · subst e; simp
  · by_cases h : p < k
    · simp [e, h, Nat.lt_succ_of_lt h]
    · simp [e, h, show ¬ p < k + 1 from by omega]
theorem textAt_copied {w : World} {b n : Nat} {g : Nat → Int} (h : RowAt w b n (copied g n)) : TextAt w b 0 n g := fun p hp => by
  have := (h p hp).1
  simpa [copied, hp] using this

/-- The clone: a new block with the same bytes. -/
def CloneRes (g : Nat → Int) (n : Nat) (w : World) (e : Ending) (w' : World) : Prop :=
  e = .returned (.slice (some ⟨w.heap.size, 0, none⟩) n n) ∧ TextAt w' w.heap.size 0 n g ∧ Below w.heap.size w w' ∧ w.heap.size < w'.heap.size

set_option maxHeartbeats 800000 in
theorem zzClone_any (b off n cap : Nat) (g : Nat → Int) (w : World) (hn : n ≤ 1048576) (ht : TextAt w b off n g) (hb : b < w.heap.size) :
    Calls Try.prog 15 #[.slice (some ⟨b, off, none⟩) n cap] w (CloneRes g n w) := by
  obtain ⟨C, hC, hmk⟩ := makeBytes n hn
  have heq := eql26_not
  have hT0 : RowAt (w.alloc (.cells C 5)) w.heap.size n (copied g 0) := by
    have := rowAt_new w C n hC
    exact fun p hp => by simpa [copied] using this p hp
  have hB0 : Below w.heap.size w (w.alloc (.cells C 5)) := (Below.refl _ _).alloc (Nat.le_refl _) _
  go_enter Try.func15, Try.ntmps15
  go_wp2_with fail
  clear hmk heq
  go_loopg [4] n (fun c x wr => ∃ k : Nat, c = n - k ∧ k ≤ n ∧ x = .int .i64 (k : Int) ∧ RowAt wr w.heap.size n (copied g k) ∧ Below w.heap.size w wr ∧ w.heap.size < wr.heap.size)
  case atStart => exact ⟨0, rfl, Nat.zero_le _, rfl, hT0, hB0, by simp⟩
  case round =>
    obtain ⟨k, hgk, hk, rfl, hR, hB, hsz⟩ := hrel
    have GK : Aside (gk = n - k) := hgk
    clear hgk hT0 hB0
    by_cases hkn : k < n
    · have hc1 := (hR k hkn).1
      have hf1 := (hR k hkn).2
      have hc2 := textAt_below ht hB hb k hkn
      have F1 : RowAt (wr.setCell ⟨w.heap.size, k, none⟩ (.int .u8 (g k))) w.heap.size n (copied g (k + 1)) := by
        rw [← copied_succ]; exact rowAt_set hR k (g k)
      have F2 : Below w.heap.size w (wr.setCell ⟨w.heap.size, k, none⟩ (.int .u8 (g k))) := hB.setCell (p := ⟨w.heap.size, k, none⟩) (Nat.le_refl _) _
      have F3 : w.heap.size < (wr.setCell ⟨w.heap.size, k, none⟩ (.int .u8 (g k))).heap.size := by simpa [World.setCell] using hsz
      clear hR ht
      go_wp2_with fail
      go_roundg (n - (k + 1))
      case measure => rw [GK.out]; omega
      case rel => exact ⟨k + 1, rfl, by omega, by go_num, F1, F2, F3⟩
    · have hke : k = n := by omega
      subst hke
      have F := textAt_copied hR
      clear hR ht
      go_wp2_with fail
      go_ret
      exact ⟨rfl, F, hB, hsz⟩

set_option maxHeartbeats 400000 in
/-- An empty slice that is not nil. -/
theorem zzClone_empty (x : Addr) (cap : Nat) (g : Nat → Int) (w : World) :
    Calls Try.prog 15 #[.slice (some x) 0 cap] w (CloneRes g 0 w) := by
  obtain ⟨C, hC, hmk0⟩ := makeBytes 0 (by omega)
  have hmk : ∀ w : World, (Instr.makeSlice 26 (.int .i64 0) (.int .i64 0)).run Try.prog w = .ok (.slice (some ⟨w.heap.size, 0, none⟩) 0 0) (w.alloc (.cells C 5)) := fun w => hmk0 w
  have heq := eql26_not
  have hB0 : Below w.heap.size w (w.alloc (.cells C 5)) := (Below.refl _ _).alloc (Nat.le_refl _) _
  clear hmk0
  go_enter Try.func15, Try.ntmps15
  go_wp2_with fail
  clear hmk heq
  refine wp_loop_rounds 1 ?_
  rw [rounds_succ]
  go_wp2_with fail
  go_ret
  exact ⟨rfl, fun p hp => absurd hp (by omega), hB0, by simp⟩

set_option maxHeartbeats 400000 in
theorem zzClone_nil (w : World) : Calls Try.prog 15 #[.slice none 0 0] w fun e w' => e = .returned (.slice none 0 0) ∧ w' = w := by
  have heq := eql26_nil
  go_enter Try.func15, Try.ntmps15
  go_wp2_with fail
  go_ret
  exact ⟨rfl, rfl⟩

set_option maxHeartbeats 400000 in
theorem zzWS_nil (w : World) : Calls Try.prog 17 #[.slice none 0 0, .int .i64 0] w fun e w' => e = .returned (.int .i64 0) ∧ w' = w := by
  go_enter Try.func17, Try.ntmps17
  go_wp2_with fail
  refine wp_loop_rounds 1 ?_
  rw [rounds_succ]
  go_wp2_with fail
  go_ret
  exact ⟨rfl, rfl⟩

set_option maxHeartbeats 400000 in
theorem zzValue_nil (δ parent : Int) (x y : Value) (w : World) : Calls Try.prog 24 #[.slice none 0 0, .int .i64 0, .int .i64 δ, .int .i64 parent, x, y] w fun e w' => e = .returned (.tuple #[.int .i64 0, .bool false]) ∧ w' = w := by
  go_enter Try.func24, Try.ntmps24
  go_wp2_with fail
  go_ret2
  exact ⟨rfl, rfl⟩

set_option maxHeartbeats 400000 in
theorem zzParse_nil (w : World) : Calls Try.prog 16 #[.slice none 0 0] w fun e w' => e = .returned (.tuple #[.slice none 0 0, .slice none 0 0, .int .i64 0, .bool false]) ∧ Below w.heap.size w w' := by
  obtain ⟨C, hC, hmk0⟩ := make29 0 (by omega)
  have hmk : ∀ w : World, (Instr.makeSlice 29 (.int .i64 0) (.int .i64 0)).run Try.prog w = .ok (.slice (some ⟨w.heap.size, 0, none⟩) 0 0) (w.alloc (.cells C 3)) := fun w => hmk0 w
  have hB0 : Below w.heap.size w ((w.alloc (.cells C 3)).alloc (.cells C 3)) := ((Below.refl _ _).alloc (Nat.le_refl _) _).alloc (by simp) _
  clear hmk0
  go_enter Try.func16, Try.ntmps16
  go_wp2_with fail
  clear hmk
  refine wp_loop_rounds 1 ?_
  rw [rounds_succ]
  go_wp2_with fail
  refine (zzWS_nil _).mono ?_
  rintro e w1 ⟨rfl, rfl⟩
  go_wp2_with fail
  refine (zzValue_nil _ _ _ _ _).mono ?_
  rintro e w2 ⟨rfl, rfl⟩
  go_wp2_with fail
  exact bodyPost_ret (by simp [results, Try.results16, go_sem]) rfl ⟨rfl, hB0⟩
end Go.Proofs.Qxb6603692a
