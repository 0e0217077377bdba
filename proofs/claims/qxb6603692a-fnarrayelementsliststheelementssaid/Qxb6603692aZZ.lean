import Derived.Test.Qxb6603692aNext
namespace Go.Proofs.Qxb6603692a
open Go.RowKit

set_option maxHeartbeats 800000 in
theorem zzNext_any (d bt off n cap p s e0 : Nat) (g : Nat → Int) (w : World) (hn : n ≤ 1048576) (hcap : n ≤ cap) (ht : TextAt w bt off n g) (hbt : bt < w.heap.size) (hSk : Sk g n p s) (hV : Val g n d s e0) (hD : Delim g n e0) :
    Calls Try.prog 18 #[.slice (some ⟨bt, off, none⟩) n cap, .int .i64 (p : Int)] w fun r w' => r = .returned (.tuple #[.slice (some ⟨bt, off + s, none⟩) (e0 - s) (cap - s), .int .i64 (e0 : Int)]) ∧ Below w.heap.size w w' := by
  have hA : At (w.alloc (.cells #[.slice (some ⟨bt, off, none⟩) n cap, .int .i64 (p : Int)] 43)) w.heap.size bt off n cap g p := by
    have hb : (w.alloc (.cells #[.slice (some ⟨bt, off, none⟩) n cap, .int .i64 (p : Int)] 43)).heap[w.heap.size]? = some (.cells #[.slice (some ⟨bt, off, none⟩) n cap, .int .i64 (p : Int)] 43 (0, 0)) := heap_alloc_new w _
    have hB : Below w.heap.size w (w.alloc (.cells #[.slice (some ⟨bt, off, none⟩) n cap, .int .i64 (p : Int)] 43)) := (Below.refl _ _).alloc (Nat.le_refl _) _
    exact ⟨by simp only [World.cell?, hb]; simp, by simp only [World.cell?, hb]; simp, by simp only [World.frozen?, hb]; simp, fun i hi => (hB.cell (p := ⟨bt, off + i, none⟩) hbt).trans (ht i hi), by omega⟩
  have hB0 : Below w.heap.size w (w.alloc (.cells #[.slice (some ⟨bt, off, none⟩) n cap, .int .i64 (p : Int)] 43)) := (Below.refl _ _).alloc (Nat.le_refl _) _
  have hsz : w.heap.size ≤ (w.alloc (.cells #[.slice (some ⟨bt, off, none⟩) n cap, .int .i64 (p : Int)] 43)).heap.size := by simp
  go_enter Try.func18, Try.ntmps18
  go_wp2_with fail
  refine (nexts_ok d w.heap.size bt off n cap p s e0 g _ hn hcap hA hSk hV hD).mono ?_
  rintro r w1 ⟨rfl, hA1, hK1⟩
  have hB1 := hB0.trans (hK1.below hsz)
  have hp := hA1.pos
  clear hA hB0 hsz hK1
  go_wp2_with fail
  go_quiet (fail)
  go_wp2_with fail
  go_ret2
  exact ⟨rfl, ⟨hB1.os, hB1.tape, hB1.output, hB1.size, hB1.block⟩⟩

set_option maxHeartbeats 800000 in
/-- 'zzSame' of two slices over the same bytes. -/
theorem zzSame_self (b o m c c' : Nat) (g : Nat → Int) (w : World) (hm : m ≤ 1048576) (ht : TextAt w b o m g) :
    Calls Try.prog 19 #[.slice (some ⟨b, o, none⟩) m c, .slice (some ⟨b, o, none⟩) m c'] w fun r w' => r = .returned (.bool true) ∧ ∃ nq, w' = w.drewN nq := by
  go_enter Try.func19, Try.ntmps19
  go_wp2_with fail
  go_loopg [5] m (fun k x wr => ∃ j nq : Nat, k = m - j ∧ j ≤ m ∧ x = .int .i64 (j : Int) ∧ wr = w.drewN nq)
  case atStart => exact ⟨0, 0, rfl, Nat.zero_le _, rfl, rfl⟩
  case round =>
    obtain ⟨j, nq, hgk, hj, rfl, rfl⟩ := hrel
    have GK : Aside (gk = m - j) := hgk
    clear hgk
    by_cases hjm : j < m
    · have hc := ht j hjm
      have z1 : (j : Int) < (m : Int) := by omega
      have z2 : (0 : Int) ≤ (j : Int) := by omega
      go_wp2_with fail
      go_quiet (fail)
      go_wp2_with fail
      go_roundg (m - (j + 1))
      case measure => rw [GK.out]; omega
      case rel => exact ⟨j + 1, _, rfl, by omega, by go_num, (by first | rfl | exact drewN_drewN w _ _)⟩
    · go_wp2_with fail
      go_ret
      exact ⟨rfl, _, rfl⟩
end Go.Proofs.Qxb6603692a
