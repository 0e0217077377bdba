import Derived.Test.Qxb6603692aStr
namespace Go.Proofs.Qxb6603692a
open Go.RowKit

/-- A table of ints in block be. -/
def TabAt (w : World) (be n : Nat) (E : Nat → Int) : Prop := ∀ p, p < n → w.cell? ⟨be, p, none⟩ = some (.int .i64 (E p)) ∧ w.frozen? ⟨be, p, none⟩ = false

theorem Sk.ex (g : Nat → Int) (n i : Nat) (hi : i ≤ n) : ∃ j, Sk g n i j := by
  obtain ⟨m, hm⟩ : ∃ m, m = n - i := ⟨_, rfl⟩
  induction m generalizing i with
  | zero => exact ⟨i, Nat.le_refl _, hi, fun p h1 h2 => by omega, fun h => by omega⟩
  | succ m ih =>
    cases hw : isWs (g i) with
    | false => exact ⟨i, Nat.le_refl _, hi, fun p h1 h2 => by omega, fun _ => hw⟩
    | true =>
      obtain ⟨j, hj⟩ := ih (i + 1) (by omega) (by omega)
      refine ⟨j, by have := hj.le; omega, hj.top, fun p h1 h2 => ?_, hj.stop⟩
      by_cases e : p = i
      · subst e; exact hw
      · exact hj.ws p (by omega) h2

theorem textAt_below {w w' : World} {bt off n B : Nat} {g : Nat → Int} (h : TextAt w bt off n g) (hb : Below B w w') (hB : bt < B) : TextAt w' bt off n g :=
  fun i hi => (hb.cell (p := ⟨bt, off + i, none⟩) hB).trans (h i hi)

theorem tabAt_set {w : World} {be n : Nat} {E : Nat → Int} (h : TabAt w be n E) (i : Nat) (x : Int) : TabAt (w.setCell ⟨be, i, none⟩ (.int .i64 x)) be n (upd E i x) := by
  intro p hp
  refine ⟨?_, (World.frozen?_setCell _ _ _ _).trans (h p hp).2⟩
  by_cases e : p = i
  · subst e
    rw [upd_same]
    exact World.cell?_setCell_same _ _ _ (h p hp).1
  · rw [upd_other _ _ _ _ e]
    rw [World.cell?_setCell_other _ _ _ _ (by intro h; injection h; omega)]
    exact (h p hp).1

theorem tabAt_set_other {w : World} {be bo n i : Nat} {E : Nat → Int} (h : TabAt w be n E) (x : Value) (hne : be ≠ bo) : TabAt (w.setCell ⟨bo, i, none⟩ x) be n E := by
  intro p hp
  refine ⟨?_, (World.frozen?_setCell _ _ _ _).trans (h p hp).2⟩
  rw [World.cell?_setCell_other _ _ _ _ (by intro h; injection h; omega)]
  exact (h p hp).1

/-- (0, false), or (j, true) with S of it; the tables hold E', P' then; nothing below them has turned. -/
def TRes (S : Nat → (Nat → Int) → (Nat → Int) → Prop) (n be bp : Nat) (w : World) (e : Ending) (w' : World) : Prop :=
  ∃ E' P', TabAt w' be n E' ∧ TabAt w' bp n P' ∧ Below be w w' ∧
    (e = .returned (.tuple #[.int .i64 0, .bool false]) ∨ ∃ j : Nat, e = .returned (.tuple #[.int .i64 (j : Int), .bool true]) ∧ S j E' P')

theorem tres_no {S : Nat → (Nat → Int) → (Nat → Int) → Prop} {n be bp : Nat} {w w' : World} {E' P' : Nat → Int} (h1 : TabAt w' be n E') (h2 : TabAt w' bp n P') (h3 : Below be w w') : TRes S n be bp w (.returned (.tuple #[.int .i64 0, .bool false])) w' :=
  ⟨E', P', h1, h2, h3, .inl rfl⟩
theorem tres_yes {S : Nat → (Nat → Int) → (Nat → Int) → Prop} {n be bp : Nat} {w w' : World} {E' P' : Nat → Int} (j : Nat) (h1 : TabAt w' be n E') (h2 : TabAt w' bp n P') (h3 : Below be w w') (h : S j E' P') : TRes S n be bp w (.returned (.tuple #[.int .i64 (j : Int), .bool true])) w' :=
  ⟨E', P', h1, h2, h3, .inr ⟨j, rfl, h⟩⟩

/-- What 'zzValue' does where k levels are left. -/
def ValueOk (k : Nat) : Prop := ∀ (bt off n cap be bp i δ : Nat) (g E P : Nat → Int) (parent : Int) (w : World), n ≤ 1048576 → TextAt w bt off n g → TabAt w be n E → TabAt w bp n P → bt < be → be < bp →
  (∀ p, i ≤ p → E p = -1) → i ≤ n → δ + k = 10001 →
  Calls Try.prog 24 #[.slice (some ⟨bt, off, none⟩) n cap, .int .i64 (i : Int), .int .i64 (δ : Int), .int .i64 parent, .slice (some ⟨be, 0, none⟩) n n, .slice (some ⟨bp, 0, none⟩) n n] w
    (TRes (fun j E' P' => VPost g n k i j parent E P E' P') n be bp w)

def ArrayOk (k : Nat) : Prop := ∀ (bt off n cap be bp i δ : Nat) (g E P : Nat → Int) (w : World), n ≤ 1048576 → TextAt w bt off n g → TabAt w be n E → TabAt w bp n P → bt < be → be < bp →
  (∀ p, i ≤ p → E p = -1) → i < n → δ + k = 10001 →
  Calls Try.prog 31 #[.slice (some ⟨bt, off, none⟩) n cap, .int .i64 (i : Int), .int .i64 (δ : Int), .slice (some ⟨be, 0, none⟩) n n, .slice (some ⟨bp, 0, none⟩) n n] w
    (TRes (fun j E' P' => ∃ l, ArrL (Val g n k) g n i j l ∧ Rec g n i j l E P E' P') n be bp w)

def ObjectOk (k : Nat) : Prop := ∀ (bt off n cap be bp i δ : Nat) (g E P : Nat → Int) (w : World), n ≤ 1048576 → TextAt w bt off n g → TabAt w be n E → TabAt w bp n P → bt < be → be < bp →
  (∀ p, i ≤ p → E p = -1) → i < n → δ + k = 10001 →
  Calls Try.prog 30 #[.slice (some ⟨bt, off, none⟩) n cap, .int .i64 (i : Int), .int .i64 (δ : Int), .slice (some ⟨be, 0, none⟩) n n, .slice (some ⟨bp, 0, none⟩) n n] w
    (TRes (fun j E' P' => ObjL (Val g n k) g n i j ∧ ∃ l, Rec g n i j l E P E' P') n be bp w)
end Go.Proofs.Qxb6603692a
