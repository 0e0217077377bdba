import Derived.Test.Qxb6603692aLit
namespace Go.Proofs.Qxb6603692a
open Go.RowKit

/-- A 'textWalk' in block bw: its text, where it stands. -/
structure At (w : World) (bw bt off n cap : Nat) (g : Nat → Int) (p : Nat) : Prop where
  text : w.cell? ⟨bw, 0, none⟩ = some (.slice (some ⟨bt, off, none⟩) n cap)
  pos : w.cell? ⟨bw, 1, none⟩ = some (.int .i64 (p : Int))
  free : w.frozen? ⟨bw, 1, none⟩ = false
  bytes : TextAt w bt off n g
  ne : ¬ bt = bw

/-- No block of w but bw has turned. -/
structure Kept (bw : Nat) (w w' : World) : Prop where
  os : w'.os = w.os
  tape : w'.tape = w.tape
  output : w'.output = w.output
  size : w.heap.size ≤ w'.heap.size
  block : ∀ b, b < w.heap.size → b ≠ bw → w'.heap[b]? = w.heap[b]?

theorem Kept.refl (bw : Nat) (w : World) : Kept bw w w := ⟨rfl, rfl, rfl, Nat.le_refl _, fun _ _ _ => rfl⟩
theorem Kept.trans {bw : Nat} {a b c : World} (h : Kept bw a b) (k : Kept bw b c) : Kept bw a c :=
  ⟨k.os.trans h.os, k.tape.trans h.tape, k.output.trans h.output, Nat.le_trans h.size k.size, fun i hi hne => (k.block i (Nat.lt_of_lt_of_le hi h.size) hne).trans (h.block i hi hne)⟩
theorem Kept.drewN {bw : Nat} {a b : World} (h : Kept bw a b) (nq : Nat) : Kept bw a (b.drewN nq) := ⟨h.os, h.tape, h.output, h.size, h.block⟩
theorem Kept.set {bw : Nat} {a b : World} (h : Kept bw a b) (o : Nat) (v : Value) : Kept bw a (b.setCell ⟨bw, o, none⟩ v) :=
  h.trans ⟨rfl, rfl, rfl, by simp [World.setCell], fun k _ hk => Below.heap_setCell _ _ _ _ hk⟩
theorem Kept.alloc {bw : Nat} {a b : World} (h : Kept bw a b) (o : Obj) : Kept bw a (b.alloc o) :=
  h.trans ⟨rfl, rfl, rfl, by simp, fun k hk _ => Below.heap_alloc _ _ _ hk⟩
theorem Kept.below {bw : Nat} {a b : World} (h : Kept bw a b) (hb : bw ≤ a.heap.size) : Below bw a b :=
  ⟨h.os, h.tape, h.output, h.size, fun k hk => h.block k (by omega) (by omega)⟩
theorem Kept.cell {bw : Nat} {a b : World} (h : Kept bw a b) {p : Addr} (hp : p.block < a.heap.size) (hne : p.block ≠ bw) : b.cell? p = a.cell? p := World.cell?_of_block (w := a) (h.block p.block hp hne)
theorem Kept.frozen {bw : Nat} {a b : World} (h : Kept bw a b) {p : Addr} (hp : p.block < a.heap.size) (hne : p.block ≠ bw) : b.frozen? p = a.frozen? p := World.frozen?_of_block (w := a) (h.block p.block hp hne)

theorem At.drewN {w : World} {bw bt off n cap p : Nat} {g : Nat → Int} (h : At w bw bt off n cap g p) (nq : Nat) : At (w.drewN nq) bw bt off n cap g p := ⟨h.text, h.pos, h.free, h.bytes, h.ne⟩

theorem At.set {w : World} {bw bt off n cap p : Nat} {g : Nat → Int} (h : At w bw bt off n cap g p) (q : Nat) : At (w.setCell ⟨bw, 1, none⟩ (.int .i64 (q : Int))) bw bt off n cap g q := by
  refine ⟨?_, World.cell?_setCell_same _ _ _ h.pos, (World.frozen?_setCell _ _ _ _).trans h.free, fun i hi => ?_, h.ne⟩
  · rw [World.cell?_setCell_other _ _ _ _ (by intro h; injection h; omega)]; exact h.text
  · rw [World.cell?_setCell_other _ _ _ _ (by intro e; injection e; exact h.ne (by omega))]; exact h.bytes i hi

set_option maxHeartbeats 800000 in
theorem skipSpace_any (bw bt off n cap p j : Nat) (g : Nat → Int) (w : World) (hn : n ≤ 1048576) (h : At w bw bt off n cap g p) (hj : Sk g n p j) :
    Calls Try.prog 35 #[.pointer (some ⟨bw, 0, none⟩)] w fun e w' => e = .returned (.tuple #[]) ∧ At w' bw bt off n cap g j ∧ Kept bw w w' := by
  have hpj := hj.le
  have hjn := hj.top
  go_enter Try.func35, Try.ntmps35
  go_wp2_with fail
  go_loopg [] (n - p) (fun c wr => ∃ q : Nat, c = n - q ∧ p ≤ q ∧ q ≤ j ∧ At wr bw bt off n cap g q ∧ Kept bw w wr)
  case atStart => exact ⟨p, rfl, Nat.le_refl _, hpj, h, Kept.refl _ _⟩
  case round =>
    obtain ⟨q, hgk, hq1, hq2, hA, hK⟩ := hrel
    have GK : Aside (gk = n - q) := hgk
    clear hgk h
    have ht := hA.text
    have hp := hA.pos
    have hf := hA.free
    by_cases hqn : q < n
    · have hc := hA.bytes q hqn
      have z1 : (q : Int) < (n : Int) := by omega
      have z2 : (0 : Int) ≤ (q : Int) := by omega
      cases hw : isWs (g q) with
      | true =>
        have hqj : q < j := Nat.lt_of_le_of_ne hq2 (fun e => by subst e; have a := hj.stop hqn; rw [hw] at a; cases a)
        have H : Hid (isWs (g q) = true) := hw
        have F := hA.set (q + 1)
        clear hw
        go_wp2_with fail
        go_quiet ((go_at_call 46; exact Calls.quiet_of_same (isSpace_any _ _ _ H)))
        go_wp2_with fail
        go_roundg (n - (q + 1))
        case measure => rw [GK.out]; omega
        case rel => exact ⟨q + 1, rfl, by omega, by omega, F.drewN _, (hK.set 1 _).drewN _⟩
      | false =>
        have hqj : q = j := by
          by_cases e : q < j
          · have a := hj.ws q hq1 e; rw [hw] at a; cases a
          · omega
        have H : Hid (isWs (g q) = false) := hw
        have J : Hid (q = j) := hqj
        clear hw hqj
        go_wp2_with fail
        go_quiet ((go_at_call 46; exact Calls.quiet_of_same (isSpace_any _ _ _ H)))
        go_wp2_with fail
        go_end0
        exact ⟨rfl, by rw [← J.out]; exact hA.drewN _, hK.drewN _⟩
    · have z1 : decide ((q : Int) < (n : Int)) = false := by simp; omega
      have J : Hid (q = j) := by show q = j; omega
      go_wp2_with fail
      go_quiet (fail)
      go_wp2_with fail
      go_end0
      exact ⟨rfl, by rw [← J.out]; exact hA.drewN _, hK.drewN _⟩

/-- Past a scalar. -/
structure ScalTo (g : Nat → Int) (n p j : Nat) : Prop where
  le : p ≤ j
  top : j ≤ n
  no : ∀ q, p ≤ q → q < j → endS (g q) = false
  stop : j < n → endS (g j) = true

set_option maxHeartbeats 800000 in
theorem skipScalar_any (bw bt off n cap p j : Nat) (g : Nat → Int) (w : World) (hn : n ≤ 1048576) (h : At w bw bt off n cap g p) (hj : ScalTo g n p j) :
    Calls Try.prog 41 #[.pointer (some ⟨bw, 0, none⟩)] w fun e w' => e = .returned (.tuple #[]) ∧ At w' bw bt off n cap g j ∧ Kept bw w w' := by
  have hpj := hj.le
  have hjn := hj.top
  go_enter Try.func41, Try.ntmps41
  go_wp2_with fail
  go_loopg [] (n - p) (fun c wr => ∃ q : Nat, c = n - q ∧ p ≤ q ∧ q ≤ j ∧ At wr bw bt off n cap g q ∧ Kept bw w wr)
  case atStart => exact ⟨p, rfl, Nat.le_refl _, hpj, h, Kept.refl _ _⟩
  case round =>
    obtain ⟨q, hgk, hq1, hq2, hA, hK⟩ := hrel
    have GK : Aside (gk = n - q) := hgk
    clear hgk h
    have ht := hA.text
    have hp := hA.pos
    have hf := hA.free
    by_cases hqn : q < n
    · have hc := hA.bytes q hqn
      have z1 : (q : Int) < (n : Int) := by omega
      have z2 : (0 : Int) ≤ (q : Int) := by omega
      cases hw : endS (g q) with
      | false =>
        have hqj : q < j := Nat.lt_of_le_of_ne hq2 (fun e => by subst e; have a := hj.stop hqn; rw [hw] at a; cases a)
        have H : Hid (endS (g q) = false) := hw
        have F := hA.set (q + 1)
        clear hw
        go_wp2_with fail
        go_quiet ((go_at_call 47; exact Calls.quiet_of_same (endsScalar_any _ _ _ H)))
        go_wp2_with fail
        go_roundg (n - (q + 1))
        case measure => rw [GK.out]; omega
        case rel => exact ⟨q + 1, rfl, by omega, by omega, F.drewN _, (hK.set 1 _).drewN _⟩
      | true =>
        have hqj : q = j := by
          by_cases e : q < j
          · have a := hj.no q hq1 e; rw [hw] at a; cases a
          · omega
        have H : Hid (endS (g q) = true) := hw
        have J : Hid (q = j) := hqj
        clear hw hqj
        go_wp2_with fail
        go_quiet ((go_at_call 47; exact Calls.quiet_of_same (endsScalar_any _ _ _ H)))
        go_wp2_with fail
        go_end0
        exact ⟨rfl, by rw [← J.out]; exact hA.drewN _, hK.drewN _⟩
    · have z1 : decide ((q : Int) < (n : Int)) = false := by simp; omega
      have J : Hid (q = j) := by show q = j; omega
      go_wp2_with fail
      go_quiet (fail)
      go_wp2_with fail
      go_end0
      exact ⟨rfl, by rw [← J.out]; exact hA.drewN _, hK.drewN _⟩
end Go.Proofs.Qxb6603692a
