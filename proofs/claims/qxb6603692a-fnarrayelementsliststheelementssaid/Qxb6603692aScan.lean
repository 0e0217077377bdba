import Derived.Test.Qxb6603692aProg
import Derived.Test.Qxb6603692aJson
import Derived.WalkKit
import Derived.WalkSpells
import Derived.Deep.QuietTactic
import Derived.BigQuiet
import Derived.Deep.LoopGhost
namespace Go.Proofs.Qxb6603692a
open Go.RowKit

/-- The text's bytes lie in block bt from off on. -/
def TextAt (w : World) (bt off n : Nat) (g : Nat → Int) : Prop := ∀ i, i < n → w.cell? ⟨bt, off + i, none⟩ = some (.int .u8 (g i))

theorem isWs_split (c : Int) : (c = 32 ∨ c = 9 ∨ c = 10 ∨ c = 13) ∨ (¬ c = 32 ∧ ¬ c = 9 ∧ ¬ c = 10 ∧ ¬ c = 13) := by omega

set_option maxHeartbeats 400000 in
theorem zzIsSpace_any (c : Int) (b : Bool) (w : World) (hb : Hid (isWs c = b)) :
    Calls Try.prog 25 #[.int .u8 c] w fun e w' => e = .returned (.bool b) ∧ w' = w := by
  rcases isWs_split c with h | ⟨h1, h2, h3, h4⟩
  · have hb2 : b = true := by rw [← hb.out]; rcases h with rfl | rfl | rfl | rfl <;> rfl
    subst hb2
    clear hb
    rcases h with rfl | rfl | rfl | rfl
    all_goals
      go_enter Try.func25, Try.ntmps25
      go_wp2
      go_ret
      exact ⟨rfl, rfl⟩
  · have hb2 : b = false := by rw [← hb.out]; simp [isWs, h1, h2, h3, h4]
    subst hb2
    clear hb
    have k1 : (c == 32) = false := beq_eq_false_iff_ne.2 h1
    have k2 : (c == 9) = false := beq_eq_false_iff_ne.2 h2
    have k3 : (c == 10) = false := beq_eq_false_iff_ne.2 h3
    have k4 : (c == 13) = false := beq_eq_false_iff_ne.2 h4
    go_enter Try.func25, Try.ntmps25
    go_wp2
    go_ret
    exact ⟨rfl, rfl⟩

set_option maxHeartbeats 400000 in
theorem isSpace_any (c : Int) (b : Bool) (w : World) (hb : Hid (isWs c = b)) :
    Calls Try.prog 46 #[.int .u8 c] w fun e w' => e = .returned (.bool b) ∧ w' = w := by
  rcases isWs_split c with h | ⟨h1, h2, h3, h4⟩
  · have hb2 : b = true := by rw [← hb.out]; rcases h with rfl | rfl | rfl | rfl <;> rfl
    subst hb2
    clear hb
    rcases h with rfl | rfl | rfl | rfl
    all_goals
      go_enter Try.func46, Try.ntmps46
      go_wp2
      go_ret
      exact ⟨rfl, rfl⟩
  · have hb2 : b = false := by rw [← hb.out]; simp [isWs, h1, h2, h3, h4]
    subst hb2
    clear hb
    have k1 : (c == 32) = false := beq_eq_false_iff_ne.2 h1
    have k2 : (c == 9) = false := beq_eq_false_iff_ne.2 h2
    have k3 : (c == 10) = false := beq_eq_false_iff_ne.2 h3
    have k4 : (c == 13) = false := beq_eq_false_iff_ne.2 h4
    go_enter Try.func46, Try.ntmps46
    go_wp2
    go_ret
    exact ⟨rfl, rfl⟩

set_option maxHeartbeats 400000 in
theorem endsScalar_any (c : Int) (b : Bool) (w : World) (hb : Hid (endS c = b)) :
    Calls Try.prog 47 #[.int .u8 c] w fun e w' => e = .returned (.bool b) ∧ w' = w := by
  cases hw : isWs c with
  | true =>
    have hb2 : b = true := by rw [← hb.out]; exact isWs_endS hw
    subst hb2
    clear hb
    have H : Hid (isWs c = true) := hw
    clear hw
    go_enter Try.func47, Try.ntmps47
    go_wp2_with fail
    refine (isSpace_any c true _ H).mono ?_
    rintro e w' ⟨rfl, rfl⟩
    go_wp2
    go_ret
    exact ⟨rfl, rfl⟩
  | false =>
    have H : Hid (isWs c = false) := hw
    by_cases h1 : c = 44
    · have hb2 : b = true := by rw [← hb.out, h1]; rfl
      subst hb2
      clear hb hw
      have k1 : (c == 44) = true := beq_iff_eq.2 h1
      clear h1
      go_enter Try.func47, Try.ntmps47
      go_wp2_with fail
      refine (isSpace_any c false _ H).mono ?_
      rintro e w' ⟨rfl, rfl⟩
      go_wp2
      go_ret
      exact ⟨rfl, rfl⟩
    · by_cases h2 : c = 93
      · have hb2 : b = true := by rw [← hb.out, h2]; rfl
        subst hb2
        clear hb hw
        have k1 : (c == 44) = false := beq_eq_false_iff_ne.2 h1
        have k2 : (c == 93) = true := beq_iff_eq.2 h2
        clear h1 h2
        go_enter Try.func47, Try.ntmps47
        go_wp2_with fail
        refine (isSpace_any c false _ H).mono ?_
        rintro e w' ⟨rfl, rfl⟩
        go_wp2
        go_ret
        exact ⟨rfl, rfl⟩
      · have hb2 : b = (c == 125) := by rw [← hb.out]; simp [endS, hw, h1, h2]
        clear hb hw
        have k1 : (c == 44) = false := beq_eq_false_iff_ne.2 h1
        have k2 : (c == 93) = false := beq_eq_false_iff_ne.2 h2
        clear h1 h2
        have K : Hid (b = (c == 125)) := hb2
        clear hb2
        go_enter Try.func47, Try.ntmps47
        go_wp2_with fail
        refine (isSpace_any c false _ H).mono ?_
        rintro e w' ⟨rfl, rfl⟩
        go_wp2
        go_ret
        exact ⟨by rw [K.out]; rfl, rfl⟩

set_option maxHeartbeats 400000 in
/-- 'zzWS': past the white space. -/
theorem zzWS_any (bt off n cap i j : Nat) (g : Nat → Int) (w : World) (hn : n ≤ 1048576) (ht : TextAt w bt off n g) (hj : Sk g n i j) :
    Calls Try.prog 17 #[.slice (some ⟨bt, off, none⟩) n cap, .int .i64 (i : Int)] w fun e w' => e = .returned (.int .i64 (j : Int)) ∧ w' = w := by
  have hij := hj.le
  have hjn := hj.top
  go_enter Try.func17, Try.ntmps17
  go_wp2
  go_loopg [1] (n - i) (fun k x wr => ∃ p : Nat, k = n - p ∧ i ≤ p ∧ p ≤ j ∧ x = .int .i64 (p : Int) ∧ wr = w)
  case atStart => exact ⟨i, rfl, Nat.le_refl _, hij, rfl, rfl⟩
  case round =>
    obtain ⟨p, hgk, hp1, hp2, rfl, rfl⟩ := hrel
    have GK : Aside (gk = n - p) := hgk
    clear hgk
    by_cases hpn : p < n
    · have hc := ht p hpn
      cases hw : isWs (g p) with
      | true =>
        have hpj : p < j := Nat.lt_of_le_of_ne hp2 (fun e => by subst e; have a := hj.stop hpn; rw [hw] at a; cases a)
        have H : Hid (isWs (g p) = true) := hw
        clear hw ht
        go_wp2_with (go_at_call 25; refine (zzIsSpace_any (g p) true _ H).mono ?_; rintro e w' ⟨rfl, rfl⟩)
        go_roundg (n - (p + 1))
        case measure => rw [GK.out]; omega
        case rel => exact ⟨p + 1, rfl, by omega, by omega, by go_num, rfl⟩
      | false =>
        have hpj : p = j := by
          by_cases e : p < j
          · have a := hj.ws p hp1 e; rw [hw] at a; cases a
          · omega
        have H : Hid (isWs (g p) = false) := hw
        have J : Hid (p = j) := hpj
        clear hw ht hpj
        go_wp2_with (go_at_call 25; refine (zzIsSpace_any (g p) false _ H).mono ?_; rintro e w' ⟨rfl, rfl⟩)
        go_ret
        exact ⟨by rw [← J.out]; rfl, rfl⟩
    · have J : Hid (p = j) := by show p = j; omega
      clear ht
      go_wp2_with fail
      go_ret
      exact ⟨by rw [← J.out]; rfl, rfl⟩
end Go.Proofs.Qxb6603692a
