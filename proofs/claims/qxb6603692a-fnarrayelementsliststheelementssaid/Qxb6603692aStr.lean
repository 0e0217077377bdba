import Derived.Test.Qxb6603692aLit
namespace Go.Proofs.Qxb6603692a
open Go.RowKit

/-- (0, false), or (e, true) with a string behind the quote at i that ends at e. -/
def StrPost (g : Nat → Int) (n i : Nat) (w : World) (e : Ending) (w' : World) : Prop :=
  (e = .returned (.tuple #[.int .i64 0, .bool false]) ∨ ∃ j : Nat, e = .returned (.tuple #[.int .i64 (j : Int), .bool true]) ∧ StrTo g n (i + 1) j) ∧ w' = w

theorem str_no (g : Nat → Int) (n i : Nat) (w : World) : StrPost g n i w (.returned (.tuple #[.int .i64 0, .bool false])) w := ⟨.inl rfl, rfl⟩

/-- Whatever string is read from p on is read from i + 1 on. -/
def StrBack (g : Nat → Int) (n i p : Nat) : Prop := ∀ e, StrTo g n p e → StrTo g n (i + 1) e

theorem StrBack.plain {g : Nat → Int} {n i p : Nat} (h : StrBack g n i p) (hp : p < n) (h34 : ¬ g p = 34) (h92 : ¬ g p = 92) : StrBack g n i (p + 1) := fun e he => h e (StrTo.plain hp h34 h92 he)
theorem StrBack.esc {g : Nat → Int} {n i p : Nat} (h : StrBack g n i p) (hp : p < n) (h92 : g p = 92) : StrBack g n i (p + 2) := fun e he => h e (StrTo.esc hp h92 he)

set_option maxRecDepth 100000 in
set_option maxHeartbeats 1600000 in
theorem zzString_any (bt off n cap i : Nat) (g : Nat → Int) (w : World) (hn : n ≤ 1048576) (ht : TextAt w bt off n g) (hi : i < n) :
    Calls Try.prog 32 #[.slice (some ⟨bt, off, none⟩) n cap, .int .i64 (i : Int)] w (StrPost g n i w) := by
  go_enter Try.func32, Try.ntmps32
  go_wp2_with fail
  go_loopg [1] (n - (i + 1)) (fun c x wr => ∃ p : Nat, c = n - p ∧ p ≤ n ∧ x = .int .i64 (p : Int) ∧ StrBack g n i p ∧ wr = w)
  case atStart => exact ⟨i + 1, rfl, hi, by go_num, fun e h => h, rfl⟩
  case round =>
    obtain ⟨p, hgk, hp, rfl, hB, rfl⟩ := hrel
    have GK : Aside (gk = n - p) := hgk
    clear hgk
    by_cases hpn : p < n
    · have hc := ht p hpn
      by_cases h34 : g p = 34
      · have HS := hB _ (StrTo.quote hpn h34)
        have k1 : (g p == 34) = true := beq_iff_eq.2 h34
        clear h34
        go_wp2_with fail
        go_ret2
        exact ⟨.inr ⟨p + 1, by simp, HS⟩, rfl⟩
      · have k1 : (g p == 34) = false := beq_eq_false_iff_ne.2 h34
        by_cases h32 : g p < 32
        · clear h34
          go_wp2_with fail
          go_ret2
          exact str_no g n i _
        · by_cases h92 : g p = 92
          · have k2 : (g p != 92) = false := by rw [bne_eq_false_iff_eq]; exact h92
            have hE := hB.esc hpn h92
            clear h34 h92 hB
            by_cases hpn1 : p + 1 < n
            · have hc1 := ht (p + 1) hpn1
              by_cases hone : g (p + 1) = 34 ∨ g (p + 1) = 92 ∨ g (p + 1) = 47 ∨ g (p + 1) = 98 ∨ g (p + 1) = 102 ∨ g (p + 1) = 110 ∨ g (p + 1) = 114 ∨ g (p + 1) = 116
              · rcases hone with h | h | h | h | h | h | h | h
                all_goals
                  go_wp2_with fail
                  go_roundg (n - (p + 2))
                  case measure => rw [GK.out]; omega
                  case rel => exact ⟨p + 2, rfl, by omega, by go_num, hE, rfl⟩
              · have j1 : (g (p + 1) == 34) = false := beq_eq_false_iff_ne.2 (by omega)
                have j2 : (g (p + 1) == 92) = false := beq_eq_false_iff_ne.2 (by omega)
                have j3 : (g (p + 1) == 47) = false := beq_eq_false_iff_ne.2 (by omega)
                have j4 : (g (p + 1) == 98) = false := beq_eq_false_iff_ne.2 (by omega)
                have j5 : (g (p + 1) == 102) = false := beq_eq_false_iff_ne.2 (by omega)
                have j6 : (g (p + 1) == 110) = false := beq_eq_false_iff_ne.2 (by omega)
                have j7 : (g (p + 1) == 114) = false := beq_eq_false_iff_ne.2 (by omega)
                have j8 : (g (p + 1) == 116) = false := beq_eq_false_iff_ne.2 (by omega)
                clear hone
                by_cases hu : g (p + 1) = 117
                · have j9 : (g (p + 1) == 117) = true := beq_iff_eq.2 hu
                  clear hu
                  by_cases h4 : n < p + 6
                  · go_wp2_with fail
                    go_ret2
                    exact str_no g n i _
                  · have z1 : decide ((p : Int) < (n : Int)) = true := by simp; omega
                    have z2 : decide ((n : Int) ≤ (p : Int) + 1) = false := by simp; omega
                    have z3 : decide ((n : Int) - ((p : Int) + 2) < 4) = false := by simp; omega
                    have z4 : decide (g p < 32) = false := by simp; omega
                    go_wp2_with fail
                    go_loopg [7] 4 (fun c x wx => ∃ q : Nat, c = 4 - q ∧ q ≤ 4 ∧ x = .int .i64 ((p : Int) + 2 + (q : Int)) ∧ Hid (∀ r, p + 2 ≤ r → r < p + 2 + q → ¬ g r = 34 ∧ ¬ g r = 92) ∧ wx = wr)
                    case atStart => exact ⟨0, rfl, by omega, by simp, fun r h1 h2 => by omega, rfl⟩
                    case round =>
                      obtain ⟨q, hgk2, hq, rfl, HH, hwx⟩ := hrel
                      subst hwx
                      have GK2 : Aside (gk = 4 - q) := hgk2
                      clear hgk2
                      by_cases hq4 : q < 4
                      · have hcq := ht (p + 2 + q) (by omega)
                        go_wp2_with fail
                        refine (zzHex_any _ _).mono ?_
                        rintro e w1 ⟨b, rfl, hb, rfl⟩
                        cases b with
                        | false =>
                          clear hb
                          go_wp2_with fail
                          go_ret2
                          exact str_no g n i _
                        | true =>
                          have HH2 : Hid (∀ r, p + 2 ≤ r → r < p + 2 + (q + 1) → ¬ g r = 34 ∧ ¬ g r = 92) := fun r h1 h2 => by
                            by_cases e : r = p + 2 + q
                            · subst e; exact hb rfl
                            · exact HH.out r h1 (by omega)
                          clear hb
                          go_wp2_with fail
                          go_roundg (4 - (q + 1))
                          case measure => rw [GK2.out]; omega
                          case rel => exact ⟨q + 1, rfl, by omega, by go_num, HH2, rfl⟩
                      · have hqe : q = 4 := by omega
                        subst hqe
                        have HB : StrBack g n i (p + 6) :=
                          (((hE.plain (by omega) (HH.out (p + 2) (by omega) (by omega)).1 (HH.out (p + 2) (by omega) (by omega)).2).plain (by omega) (HH.out (p + 3) (by omega) (by omega)).1 (HH.out (p + 3) (by omega) (by omega)).2).plain (by omega) (HH.out (p + 4) (by omega) (by omega)).1 (HH.out (p + 4) (by omega) (by omega)).2).plain (by omega) (HH.out (p + 5) (by omega) (by omega)).1 (HH.out (p + 5) (by omega) (by omega)).2
                        clear HH
                        go_wp2_with fail
                        go_roundg (n - (p + 6))
                        case measure => rw [GK.out]; omega
                        case rel => exact ⟨p + 6, rfl, by omega, by go_num, HB, rfl⟩
                · have j9 : (g (p + 1) == 117) = false := beq_eq_false_iff_ne.2 hu
                  clear hu
                  go_wp2_with fail
                  go_ret2
                  exact str_no g n i _
            · go_wp2_with fail
              go_ret2
              exact str_no g n i _
          · have k2 : (g p != 92) = true := by rw [bne_iff_ne]; exact h92
            have HB := hB.plain hpn h34 h92
            clear h34 h92 hB
            go_wp2_with fail
            go_roundg (n - (p + 1))
            case measure => rw [GK.out]; omega
            case rel => exact ⟨p + 1, rfl, by omega, by go_num, HB, rfl⟩
    · go_wp2_with fail
      go_ret2
      exact str_no g n i _
end Go.Proofs.Qxb6603692a
