import Derived.Test.Qxb6603692aBuilder
import Derived.Test.Qxb6603692aUnq
namespace Go.Proofs.Qxb6603692a
open Go.RowKit

/-- The two results of 'unquote'. -/
def Ans (o : Option (List UInt8)) (e : Ending) : Prop := e = .returned (.tuple #[.string ⟨(o.getD []).toArray⟩, .bool o.isSome])
theorem ans_none {o : Option (List UInt8)} (h : Hid (o = none)) : Ans o (.returned (.tuple #[.string ⟨#[]⟩, .bool false])) := by rw [h.out]; rfl
theorem ans_some {o : Option (List UInt8)} {l : List UInt8} (h : Hid (o = some l)) : Ans o (.returned (.tuple #[.string ⟨l.toArray⟩, .bool true])) := by rw [h.out]; rfl

theorem byteCells_snoc (acc : List UInt8) (c : UInt8) (n : Int) (h : (c.toNat : Int) = n) : Lib.byteCells acc ++ [.int .u8 n] = Lib.byteCells (acc ++ [c]) := by
  subst h; simp [Lib.byteCells]

/-- 'WriteByte' behind bytes. -/
theorem writeByte_byte (B b : Nat) (acc : List UInt8) (c : UInt8) (n : Int) (w : World) (h : Lib.IsBuilder 47 5 B b (Lib.byteCells acc) w) (hc : Hid ((c.toNat : Int) = n)) (hlen : acc.length ≤ 1048576) (hBw : B ≤ w.heap.size) :
    Calls Try.prog 28 #[.pointer (some ⟨b, 0, none⟩), .int .u8 n] w fun e w' => e = .returned .nilIface ∧ (Lib.IsBuilder 47 5 B b (Lib.byteCells (acc ++ [c])) w' ∧ Below B w w') := by
  refine (writeByte_any B b (Lib.byteCells acc) n w h (by rw [Lib.byteCells_length]; omega) hBw).mono ?_
  rintro e w' ⟨rfl, h1, h2⟩
  rw [byteCells_snoc acc c n hc.out] at h1
  exact ⟨rfl, .inr h1, h2⟩

set_option maxHeartbeats 1600000 in
theorem unquote_any (s : ByteArray) (o : Option (List UInt8)) (w : World) (hs : s.size ≤ 1048576) (O : Hid (uq s = o)) :
    Calls Try.prog 23 #[.string s] w fun e w' => Ans o e ∧ Below w.heap.size w w' := by
  by_cases h2 : 2 ≤ s.size
  · by_cases c0 : ((s[0]'(by omega)).toNat : Int) = 34
    · by_cases c1 : ((s[s.size - 1]'(by omega)).toNat : Int) = 34
      · have O2 : Hid (unq (rest s 1) = o) := by
          rw [← O.out, uq_in s h2 ((u8_int _ 34 (by decide)).1 c0) ((u8_int _ 34 (by decide)).1 c1)]; exact rfl
        clear O
        go_enter Try.func23, Try.ntmps23
        go_wp2
        clear c0 c1
        go_loopw [5] (fun i wr => ∃ (k : Nat) (acc : List UInt8), 1 ≤ k ∧ k + 1 ≤ s.size ∧ i = .int .i64 k ∧ Lib.IsBuilder 47 5 w.heap.size w.heap.size (Lib.byteCells acc) wr ∧ Below w.heap.size w wr ∧ acc.length ≤ k ∧ Reads o acc s k)
          (fun i _ => s.size - (intOf i).toNat)
        case atStart => exact ⟨1, [], by omega, by omega, rfl, Lib.fresh_isBuilder _ _ _, (Below.refl _ _).alloc (Nat.le_refl _) _, by simp, by rw [← O2.out]; exact Reads.start s⟩
        case round =>
          obtain ⟨k, acc, hk1, hk2, rfl, hI, hB, hacc, R⟩ := hrel
          have hsz := hB.size
          by_cases hlt : k + 1 < s.size
          · by_cases e92 : ((s[k]'(by omega)).toNat : Int) = 92
            · by_cases hend : s.size ≤ k + 2
              · have N : Hid (o = none) := R.esc_end hlt hend e92
                go_wp2_with fail
                go_ret2
                exact ⟨ans_none N, hB⟩
              · have hlt2 : k + 2 < s.size := by omega
                by_cases d34 : ((s[k + 1]'(by omega)).toNat : Int) = 34
                · have S := R.esc hlt2 e92 (.inl d34)
                  have C : Hid (((s[k + 1]'(by omega)).toNat : Int) = 34) := d34
                  go_wp2_with fail
                  refine (writeByte_byte _ _ acc _ _ _ hI C (by omega) hsz).mono ?_
                  rintro e w1 ⟨rfl, hI1, hB1⟩
                  clear C
                  go_wp2_with fail
                  go_roundw
                  case rel => exact ⟨k + 2, _, by omega, by omega, by go_num, hI1, hB.trans hB1, by simp; omega, S⟩
                  case measure => simp [intOf]; omega
                · by_cases d92 : ((s[k + 1]'(by omega)).toNat : Int) = 92
                  · have S := R.esc hlt2 e92 (.inr d92)
                    have C : Hid (((s[k + 1]'(by omega)).toNat : Int) = 92) := d92
                    go_wp2_with fail
                    refine (writeByte_byte _ _ acc _ _ _ hI C (by omega) hsz).mono ?_
                    rintro e w1 ⟨rfl, hI1, hB1⟩
                    clear C
                    go_wp2_with fail
                    go_roundw
                    case rel => exact ⟨k + 2, _, by omega, by omega, by go_num, hI1, hB.trans hB1, by simp; omega, S⟩
                    case measure => simp [intOf]; omega
                  · have N : Hid (o = none) := R.esc_bad hlt2 e92 d34 d92
                    have x34 : (((s[k + 1]'(by omega)).toNat : Int) != 34) = true := bne_iff_ne.2 d34
                    have x92 : (((s[k + 1]'(by omega)).toNat : Int) != 92) = true := bne_iff_ne.2 d92
                    go_wp2_with fail
                    go_ret2
                    exact ⟨ans_none N, hB⟩
            · by_cases hbad : ((s[k]'(by omega)).toNat : Int) = 34 ∨ ((s[k]'(by omega)).toNat : Int) < 32 ∨ 126 < ((s[k]'(by omega)).toNat : Int)
              · have N : Hid (o = none) := R.bad hlt e92 hbad
                rcases hbad with hb | hb | hb
                · go_wp2_with fail
                  go_ret2
                  exact ⟨ans_none N, hB⟩
                · go_wp2_with fail
                  all_goals go_ret2
                  all_goals exact ⟨ans_none N, hB⟩
                · go_wp2_with fail
                  all_goals go_ret2
                  all_goals exact ⟨ans_none N, hB⟩
              · have hb1 : ¬ ((s[k]'(by omega)).toNat : Int) = 34 := fun e => hbad (.inl e)
                have hb2 : 32 ≤ ((s[k]'(by omega)).toNat : Int) := by omega
                have hb3 : ((s[k]'(by omega)).toNat : Int) ≤ 126 := by omega
                clear hbad
                have S := R.plain hlt e92 hb1 hb2 hb3
                have x34 : (((s[k]'(by omega)).toNat : Int) == 34) = false := beq_eq_false_iff_ne.2 hb1
                go_wp2_with fail
                refine (writeByte_byte _ _ acc (s[k]'(by omega)) _ _ hI (by exact rfl) (by omega) hsz).mono ?_
                rintro e w1 ⟨rfl, hI1, hB1⟩
                go_wp2_with fail
                go_roundw
                case rel => exact ⟨k + 1, _, by omega, by omega, by go_num, hI1, hB.trans hB1, by simp; omega, S⟩
                case measure => simp [intOf]; omega
          · have N : Hid (o = some acc) := R.done (by omega)
            go_wp2_with fail
            refine (Try.Builder_String_any _ _ acc _ hI hsz).mono ?_
            rintro e w1 ⟨rfl, hB1⟩
            go_wp2_with fail
            go_ret2
            exact ⟨ans_some N, hB.trans hB1⟩
      · have O2 : Hid (o = none) := by
          rw [← O.out]; exact uq_shut s h2 (fun e => c1 ((u8_int _ 34 (by decide)).2 e))
        have x1 : (((s[s.size - 1]'(by omega)).toNat : Int) != 34) = true := bne_iff_ne.2 c1
        go_enter Try.func23, Try.ntmps23
        go_wp2
        go_ret2
        exact ⟨ans_none O2, Below.refl _ _⟩
    · have O2 : Hid (o = none) := by
        rw [← O.out]; exact uq_open s h2 (fun e => c0 ((u8_int _ 34 (by decide)).2 e))
      go_enter Try.func23, Try.ntmps23
      go_wp2
      go_ret2
      exact ⟨ans_none O2, Below.refl _ _⟩
  · have O2 : Hid (o = none) := by
      rw [← O.out]; exact uq_short s h2
    go_enter Try.func23, Try.ntmps23
    go_wp2
    go_ret2
    exact ⟨ans_none O2, Below.refl _ _⟩
end Go.Proofs.Qxb6603692a
