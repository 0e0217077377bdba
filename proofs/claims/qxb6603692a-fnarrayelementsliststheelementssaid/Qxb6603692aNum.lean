import Derived.Test.Qxb6603692aScan
import Derived.Deep.Cut
namespace Go.Proofs.Qxb6603692a
open Go.RowKit

def HexPost (c : Int) (w : World) (e : Ending) (w' : World) : Prop := ∃ b, e = .returned (.bool b) ∧ (b = true → ¬ c = 34 ∧ ¬ c = 92) ∧ w' = w

set_option maxHeartbeats 400000 in
theorem zzHex_any (c : Int) (w : World) : Calls Try.prog 44 #[.int .u8 c] w (HexPost c w) := by
  by_cases h1 : c = 34
  · subst h1
    go_enter Try.func44, Try.ntmps44
    go_wp2
    go_ret
    exact ⟨false, rfl, fun h => absurd h (by decide), rfl⟩
  · by_cases h2 : c = 92
    · subst h2
      go_enter Try.func44, Try.ntmps44
      go_wp2
      go_ret
      exact ⟨false, rfl, fun h => absurd h (by decide), rfl⟩
    · go_enter Try.func44, Try.ntmps44
      go_wp2
      all_goals go_ret
      all_goals exact ⟨_, rfl, fun _ => ⟨h1, h2⟩, rfl⟩

def DigPost (g : Nat → Int) (n i : Nat) (w : World) (e : Ending) (w' : World) : Prop := ∃ j : Nat, e = .returned (.int .i64 (j : Int)) ∧ i ≤ j ∧ j ≤ n ∧ Hid (∀ p, i ≤ p → p < j → 48 ≤ g p ∧ g p ≤ 57) ∧ Hid (j < n → ¬ (48 ≤ g j ∧ g j ≤ 57)) ∧ w' = w

set_option maxHeartbeats 400000 in
/-- 'zzDigits': past the digits. -/
theorem zzDigits_any (bt off n cap i : Nat) (g : Nat → Int) (w : World) (hn : n ≤ 1048576) (ht : TextAt w bt off n g) (hi : i ≤ n) :
    Calls Try.prog 45 #[.slice (some ⟨bt, off, none⟩) n cap, .int .i64 (i : Int)] w (DigPost g n i w) := by
  go_enter Try.func45, Try.ntmps45
  go_wp2
  go_loopg [1] (n - i) (fun k x wr => ∃ p : Nat, k = n - p ∧ i ≤ p ∧ p ≤ n ∧ x = .int .i64 (p : Int) ∧ Hid (∀ q, i ≤ q → q < p → 48 ≤ g q ∧ g q ≤ 57) ∧ wr = w)
  case atStart => exact ⟨i, rfl, Nat.le_refl _, hi, rfl, fun q h1 h2 => by omega, rfl⟩
  case round =>
    obtain ⟨p, hgk, hp1, hp2, rfl, HD, rfl⟩ := hrel
    have GK : Aside (gk = n - p) := hgk
    clear hgk
    by_cases hpn : p < n
    · have hc := ht p hpn
      by_cases hd : 48 ≤ g p ∧ g p ≤ 57
      · have HD2 : Hid (∀ q, i ≤ q → q < p + 1 → 48 ≤ g q ∧ g q ≤ 57) := fun q h1 h2 => by
          by_cases e : q = p
          · subst e; exact hd
          · exact HD.out q h1 (by omega)
        obtain ⟨hd1, hd2⟩ := hd
        clear ht
        go_wp2_with fail
        go_roundg (n - (p + 1))
        case measure => rw [GK.out]; omega
        case rel => exact ⟨p + 1, rfl, by omega, by omega, by go_num, HD2, rfl⟩
      · have HS : Hid (p < n → ¬ (48 ≤ g p ∧ g p ≤ 57)) := fun _ => hd
        clear ht
        go_wp2_with fail
        all_goals go_ret
        all_goals exact ⟨p, rfl, hp1, hp2, HD, HS, rfl⟩
    · have HS : Hid (p < n → ¬ (48 ≤ g p ∧ g p ≤ 57)) := fun h => absurd h hpn
      clear ht
      go_wp2_with fail
      go_ret
      exact ⟨p, rfl, hp1, hp2, HD, HS, rfl⟩

/-- No byte from i up to p ends a scalar. -/
def NoEnd (g : Nat → Int) (i p : Nat) : Prop := ∀ q, i ≤ q → q < p → endS (g q) = false
theorem endS_small {c : Int} (h : c = 45 ∨ c = 46 ∨ c = 43 ∨ c = 101 ∨ c = 69 ∨ (48 ≤ c ∧ c ≤ 57)) : endS c = false := by
  simp [endS, isWs]; omega
theorem NoEnd.refl (g : Nat → Int) (i : Nat) : NoEnd g i i := fun q h1 h2 => by omega
theorem NoEnd.one {g : Nat → Int} {i p : Nat} (h : NoEnd g i p) (hc : endS (g p) = false) : NoEnd g i (p + 1) := fun q h1 h2 => by
  by_cases e : q = p
  · subst e; exact hc
  · exact h q h1 (by omega)
theorem NoEnd.digits {g : Nat → Int} {i p j : Nat} (h : NoEnd g i p) (hd : ∀ q, p ≤ q → q < j → 48 ≤ g q ∧ g q ≤ 57) : NoEnd g i j := fun q h1 h2 => by
  by_cases e : q < p
  · exact h q h1 e
  · exact endS_small (by have := hd q (by omega) h2; omega)

/-- (0, false), or (e, true) with a scalar from i to e. -/
def ScalPost (g : Nat → Int) (n i : Nat) (w : World) (e : Ending) (w' : World) : Prop :=
  (e = .returned (.tuple #[.int .i64 0, .bool false]) ∨ ∃ j : Nat, e = .returned (.tuple #[.int .i64 (j : Int), .bool true]) ∧ Scal g n i j) ∧ ∃ nq, w' = w.drewN nq

theorem scal_no (g : Nat → Int) (n i : Nat) (w : World) : ScalPost g n i w (.returned (.tuple #[.int .i64 0, .bool false])) w := ⟨.inl rfl, 0, rfl⟩
theorem scal_yes {g : Nat → Int} {n i j : Nat} (w : World) (h1 : i < j) (h2 : j ≤ n) (h : NoEnd g i j) : ScalPost g n i w (.returned (.tuple #[.int .i64 (j : Int), .bool true])) w := ⟨.inr ⟨j, rfl, h1, h2, h⟩, 0, rfl⟩

set_option maxRecDepth 100000 in
set_option maxHeartbeats 1600000 in
theorem zzNumber_any (bt off n cap i : Nat) (g : Nat → Int) (w : World) (hn : n ≤ 1048576) (ht : TextAt w bt off n g) (hi : i < n) :
    Calls Try.prog 34 #[.slice (some ⟨bt, off, none⟩) n cap, .int .i64 (i : Int)] w (ScalPost g n i w) := by
  have hci := ht i hi
  go_enter Try.func34, Try.ntmps34
  go_upto_if 18 with fail
  go_cut [1] from 8 (fun x wx => ∃ p : Nat, x = .int .i64 (p : Int) ∧ i ≤ p ∧ p ≤ n ∧ NoEnd g i p ∧ w = wx)
  case first =>
    go_wp2_with fail
    · have h45 : (g i == 45) = true := by assumption
      go_meet
      case rel => exact ⟨i + 1, by go_num, by omega, by omega, (NoEnd.refl g i).one (endS_small (.inl (beq_iff_eq.1 h45))), rfl⟩
    · go_meet
      case rel => exact ⟨i, rfl, by omega, by omega, NoEnd.refl g i, rfl⟩
  case rest =>
    obtain ⟨p, rfl, hp1, hp2, hN, rfl⟩ := hcut
    clear hci
    by_cases hpn : p < n
    · have hcp := ht p hpn
      go_upto_if 29 with fail
      go_cut [1] from 8 (fun x wx => ∃ p2 : Nat, x = .int .i64 (p2 : Int) ∧ i < p2 ∧ p2 ≤ n ∧ NoEnd g i p2 ∧ w = wx)
      case first =>
        by_cases h48 : g p = 48
        · have k48 : (g p == 48) = true := beq_iff_eq.2 h48
          have HN := hN.one (endS_small (by omega))
          clear h48
          go_wp2_with fail
          go_meet
          case rel => exact ⟨p + 1, by go_num, by omega, by omega, HN, rfl⟩
        · have k48 : (g p == 48) = false := beq_eq_false_iff_ne.2 h48
          by_cases hd : 49 ≤ g p ∧ g p ≤ 57
          · obtain ⟨hd1, hd2⟩ := hd
            go_wp2_with fail
            refine (zzDigits_any bt off n cap p g _ hn ht hp2).mono ?_
            rintro e w' ⟨j, rfl, hj1, hj2, HD, HS, rfl⟩
            have hpj : p < j := Nat.lt_of_le_of_ne hj1 (fun e => by subst e; exact HS.out hpn ⟨by omega, hd2⟩)
            have HN := hN.digits HD.out
            go_wp2_with fail
            go_meet
            case rel => exact ⟨j, rfl, by omega, by omega, HN, rfl⟩
          · go_wp2_with fail
            all_goals go_ret2
            all_goals exact scal_no g n i _
      case rest =>
        obtain ⟨p2, rfl, hq1, hq2, hN2, rfl⟩ := hcut
        clear hcp hN hp1 hp2 hpn
        by_cases hpn2 : p2 < n
        · have hcp2 := ht p2 hpn2
          go_upto_if 57 with fail
          go_cut [1] from 8 (fun x wx => ∃ p3 : Nat, x = .int .i64 (p3 : Int) ∧ i < p3 ∧ p3 ≤ n ∧ NoEnd g i p3 ∧ w = wx)
          case first =>
            by_cases h46 : g p2 = 46
            · have k46 : (g p2 == 46) = true := beq_iff_eq.2 h46
              have HN := hN2.one (endS_small (by omega))
              clear h46
              go_wp2_with fail
              refine (zzDigits_any bt off n cap (p2 + 1) g _ hn ht hpn2).mono ?_
              rintro e w' ⟨j, rfl, hj1, hj2, HD, HS, rfl⟩
              have HN2 := HN.digits HD.out
              by_cases hj3 : j = p2 + 1
              · have kj : ((j : Int) == (p2 : Int) + 1) = true := beq_iff_eq.2 (by omega)
                clear hj3
                go_wp2_with fail
                go_ret2
                exact scal_no g n i _
              · have kj : ((j : Int) == (p2 : Int) + 1) = false := beq_eq_false_iff_ne.2 (by omega)
                clear hj3
                go_wp2_with fail
                go_meet
                case rel => exact ⟨j, rfl, by omega, by omega, HN2, rfl⟩
            · have k46 : (g p2 == 46) = false := beq_eq_false_iff_ne.2 h46
              clear h46
              go_wp2_with fail
              go_meet
              case rel => exact ⟨p2, rfl, by omega, by omega, hN2, rfl⟩
          case rest =>
            obtain ⟨p3, rfl, hr1, hr2, hN3, rfl⟩ := hcut
            clear hcp2 hN2 hq1 hq2 hpn2
            by_cases hpn3 : p3 < n
            · have hcp3 := ht p3 hpn3
              by_cases hE : g p3 = 101 ∨ g p3 = 69
              · have HN := hN3.one (endS_small (by omega))
                have kE : ((g p3 == 101) = true) ∨ ((g p3 == 101) = false ∧ (g p3 == 69) = true) := by
                  rcases hE with h | h
                  · exact .inl (beq_iff_eq.2 h)
                  · exact .inr ⟨beq_eq_false_iff_ne.2 (by omega), beq_iff_eq.2 h⟩
                clear hE
                rcases kE with kE | ⟨kE, kE2⟩
                all_goals
                  by_cases hpn4 : p3 + 1 < n
                  · have hcp4 := ht (p3 + 1) hpn4
                    by_cases hS : g (p3 + 1) = 43 ∨ g (p3 + 1) = 45
                    · have HNs := HN.one (endS_small (by omega))
                      have kS : ((g (p3 + 1) == 43) = true) ∨ ((g (p3 + 1) == 43) = false ∧ (g (p3 + 1) == 45) = true) := by
                        rcases hS with h | h
                        · exact .inl (beq_iff_eq.2 h)
                        · exact .inr ⟨beq_eq_false_iff_ne.2 (by omega), beq_iff_eq.2 h⟩
                      clear hS
                      rcases kS with kS | ⟨kS, kS2⟩
                      all_goals
                        go_wp2_with fail
                        refine (zzDigits_any bt off n cap (p3 + 1 + 1) g _ hn ht hpn4).mono ?_
                        rintro e w' ⟨j, rfl, hj1, hj2, HD, HS, rfl⟩
                        have HN2 := HNs.digits HD.out
                        by_cases hj3 : j = p3 + 1 + 1
                        · have kj : ((j : Int) == (p3 : Int) + 1 + 1) = true := beq_iff_eq.2 (by omega)
                          clear hj3
                          go_wp2_with fail
                          go_ret2
                          exact scal_no g n i _
                        · have kj : ((j : Int) == (p3 : Int) + 1 + 1) = false := beq_eq_false_iff_ne.2 (by omega)
                          clear hj3
                          go_wp2_with fail
                          go_ret2
                          exact scal_yes _ (by omega) (by omega) HN2
                    · have k43 : (g (p3 + 1) == 43) = false := beq_eq_false_iff_ne.2 (by omega)
                      have k45 : (g (p3 + 1) == 45) = false := beq_eq_false_iff_ne.2 (by omega)
                      clear hS
                      go_wp2_with fail
                      refine (zzDigits_any bt off n cap (p3 + 1) g _ hn ht hpn3).mono ?_
                      rintro e w' ⟨j, rfl, hj1, hj2, HD, HS, rfl⟩
                      have HN2 := HN.digits HD.out
                      by_cases hj3 : j = p3 + 1
                      · have kj : ((j : Int) == (p3 : Int) + 1) = true := beq_iff_eq.2 (by omega)
                        clear hj3
                        go_wp2_with fail
                        go_ret2
                        exact scal_no g n i _
                      · have kj : ((j : Int) == (p3 : Int) + 1) = false := beq_eq_false_iff_ne.2 (by omega)
                        clear hj3
                        go_wp2_with fail
                        go_ret2
                        exact scal_yes _ (by omega) (by omega) HN2
                  · go_wp2_with fail
                    refine (zzDigits_any bt off n cap (p3 + 1) g _ hn ht hpn3).mono ?_
                    rintro e w' ⟨j, rfl, hj1, hj2, HD, HS, rfl⟩
                    have kj : ((j : Int) == (p3 : Int) + 1) = true := beq_iff_eq.2 (by omega)
                    go_wp2_with fail
                    go_ret2
                    exact scal_no g n i _
              · have k1 : (g p3 == 101) = false := beq_eq_false_iff_ne.2 (by omega)
                have k2 : (g p3 == 69) = false := beq_eq_false_iff_ne.2 (by omega)
                clear hE
                go_wp2_with fail
                go_ret2
                exact scal_yes _ hr1 hr2 hN3
            · go_wp2_with fail
              go_ret2
              exact scal_yes _ hr1 hr2 hN3
        · go_wp2_with fail
          go_ret2
          exact scal_yes _ hq1 hq2 hN2
    · go_wp2_with fail
      go_ret2
      exact scal_no g n i _
end Go.Proofs.Qxb6603692a
