import Derived.Test.Qxb6603605aProg
import Derived.WalkKit
import Derived.WalkSpells
import Derived.Test.Qxb6603605aPlain
namespace Go.Proofs.Qxb6603605a
open Go.RowKit

set_option maxHeartbeats 400000 in
/-- 'ZZsigned': the token's first bytes, as many as the header's, one more, and the payload's. -/
theorem signed_any (tok h p s : ByteArray) (w : World) (h1 : tok.size ≤ 1048576) (h2 : h.size ≤ 262144) (h3 : p.size ≤ 262144) (hb : h.size + 1 + p.size ≤ tok.size) :
    Calls Try.prog 18 #[.string tok, .string h, .string p, .string s] w fun e w' => e = .returned (.string (tok.extract 0 (h.size + 1 + p.size))) ∧ Grown w w' := by
  go_enter Try.func18, Try.ntmps18
  go_wp2
  go_ret
  exact ⟨rfl, by repeat (first | exact Grown.refl _ | apply Grown.drew | apply Grown.alloc)⟩

theorem hide {p : Prop} (h : p) : Hid p := h

/-- The same, what is cut off given by a name. -/
theorem signed_is (tok h p s c : ByteArray) (w : World) (hx : Hid (tok.extract 0 (h.size + 1 + p.size) = c)) (h1 : tok.size ≤ 1048576) (h2 : h.size ≤ 262144) (h3 : p.size ≤ 262144) (hb : h.size + 1 + p.size ≤ tok.size) :
    Calls Try.prog 18 #[.string tok, .string h, .string p, .string s] w fun e w' => e = .returned (.string c) ∧ Grown w w' := by
  have k := signed_any tok h p s w h1 h2 h3 hb
  rw [hx.out] at k
  exact k

theorem Grown.trans {a b c : World} (h : Grown a b) (k : Grown b c) : Grown a c :=
  ⟨World.keptBut_trans h.1 k.1, fun x => (k.2.1 x).trans (h.2.1 x), Nat.le_trans h.2.2 k.2.2⟩

set_option maxHeartbeats 400000 in
/-- The bound on the lengths: a bool, and nothing turns. -/
theorem bytes17 (a b c d : ByteArray) (w : World) (h1 : a.size ≤ maxLen) (h2 : b.size ≤ maxLen) (h3 : c.size ≤ maxLen) (h4 : d.size ≤ maxLen) :
    Calls Try.prog 17 #[.string a, .string b, .string c, .string d] w fun e w' => (∃ t, e = .returned (.bool t)) ∧ w' = w := by
  unfold maxLen at h1 h2 h3 h4
  go_enter Try.func17, Try.ntmps17
  go_wp2
  all_goals (go_ret; exact ⟨⟨_, rfl⟩, rfl⟩)

set_option maxHeartbeats 400000 in
/-- The bound on the lengths: a bool, and nothing turns. -/
theorem bytes19 (a b c d f : ByteArray) (w : World) (h1 : a.size ≤ maxLen) (h2 : b.size ≤ maxLen) (h3 : c.size ≤ maxLen) (h4 : d.size ≤ maxLen) (h5 : f.size ≤ maxLen) :
    Calls Try.prog 19 #[.string a, .string b, .string c, .string d, .string f] w fun e w' => (∃ t, e = .returned (.bool t)) ∧ w' = w := by
  unfold maxLen at h1 h2 h3 h4 h5
  go_enter Try.func19, Try.ntmps19
  go_wp2
  all_goals (go_ret; exact ⟨⟨_, rfl⟩, rfl⟩)
end Go.Proofs.Qxb6603605a
