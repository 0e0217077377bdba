import Derived.Test.Qxb6603692aClone
import Derived.Test.Qxb6603692aZZ
import Derived.WideShapes
namespace Go.Proofs.Qxb6603692a
open Go.RowKit

/-- A slice of bytes that came in. -/
def ByteRow (w : World) (x : Addr) (len : Nat) (g : Nat → Int) : Prop := ∀ i, i < len → w.cell? (x.add i) = some (.int .u8 (g i))

theorem clone_row (x : Addr) (len cap : Nat) (g : Nat → Int) (w : World) (hn : len ≤ 1048576) (h : ByteRow w x len g) : Calls Try.prog 15 #[.slice (some x) len cap] w (CloneRes g len w) := by
  by_cases h0 : len = 0
  · subst h0; exact zzClone_empty x cap g w
  · obtain ⟨b, off, spot⟩ := x
    have hspot : spot = none := by simpa [Addr.add] using World.cell?_spot (h 0 (by omega))
    subst hspot
    have ht : TextAt w b off len g := fun i hi => by rw [← Go.WideShapes.add_plain]; exact h i hi
    exact zzClone_any b off len cap g w hn ht (cell_lt (ht 0 (by omega)))

theorem VPost.all {g : Nat → Int} {n k top en s : Nat} {E P : Nat → Int} (h : VPost g n k top en (-2) (fun _ => -1) (fun _ => -1) E P) (he : Sk g n en n) (hs : 0 ≤ E s) : GoodAt g n s (E s) := by
  rcases Nat.lt_trichotomy s top with c | c | c
  · rw [(h.lo s c).1] at hs; omega
  · subst c
    exact ⟨k, en, h.here.1, h.val, he.delim_end⟩
  · by_cases c2 : s < en
    · exact (h.good s c c2 hs).1
    · rw [(h.hi s (by omega)).1] at hs; omega

set_option maxHeartbeats 400000 in
theorem bytes14 (a : Option Addr) (n c : Nat) (i : Int) (w : World) (h1 : n ≤ maxLen) :
    Calls Try.prog 14 #[.slice a n c, .int .i64 i] w fun e w' => (∃ t, e = .returned (.bool t)) ∧ w' = w := by
  unfold maxLen at h1
  go_enter Try.func14, Try.ntmps14
  go_wp2
  all_goals (go_ret; exact ⟨⟨_, rfl⟩, rfl⟩)

set_option maxHeartbeats 400000 in
theorem bytes20 (a : Option Addr) (n c : Nat) (i : Int) (w : World) (h1 : n ≤ maxLen) :
    Calls Try.prog 20 #[.slice a n c, .int .i64 i] w fun e w' => (∃ t, e = .returned (.bool t)) ∧ w' = w := by
  unfold maxLen at h1
  go_enter Try.func20, Try.ntmps20
  go_wp2
  all_goals (go_ret; exact ⟨⟨_, rfl⟩, rfl⟩)

set_option maxHeartbeats 400000 in
theorem bytes21 (a : Option Addr) (n c : Nat) (w : World) (h1 : n ≤ maxLen) :
    Calls Try.prog 21 #[.slice a n c] w fun e w' => (∃ t, e = .returned (.bool t)) ∧ w' = w := by
  unfold maxLen at h1
  go_enter Try.func21, Try.ntmps21
  go_wp2
  all_goals (go_ret; exact ⟨⟨_, rfl⟩, rfl⟩)
end Go.Proofs.Qxb6603692a
