/-
  JSON, PLAINLY: a text is its bytes 'g' (as numbers) and its length 'n'; no Go in sight.
-/
namespace Go.Proofs.Qxb6603692a

def isWs (c : Int) : Bool := c == 32 || c == 9 || c == 10 || c == 13
def endS (c : Int) : Bool := isWs c || c == 44 || c == 93 || c == 125

theorem isWs_endS {c : Int} (h : isWs c = true) : endS c = true := by simp [endS, h]

/-- White space from i up to j, and no further. -/
structure Sk (g : Nat → Int) (n i j : Nat) : Prop where
  le : i ≤ j
  top : j ≤ n
  ws : ∀ p, i ≤ p → p < j → isWs (g p) = true
  stop : j < n → isWs (g j) = false

theorem Sk.uniq {g : Nat → Int} {n i j k : Nat} (h : Sk g n i j) (h' : Sk g n i k) : j = k := by
  rcases Nat.lt_trichotomy j k with hlt | heq | hgt
  · have a := h.stop (by have := h'.top; omega)
    have b := h'.ws j h.le hlt
    rw [a] at b; cases b
  · exact heq
  · have a := h'.stop (by have := h.top; omega)
    have b := h.ws k h'.le hgt
    rw [a] at b; cases b

/-- From white space one steps on. -/
theorem Sk.step {g : Nat → Int} {n i j : Nat} (h : Sk g n i j) (hw : isWs (g i) = true) (hi : i < n) : Sk g n (i + 1) j := by
  have hne : i ≠ j := fun e => by
    subst e
    have a := h.stop hi
    rw [hw] at a; cases a
  have := h.le
  exact ⟨by omega, h.top, fun p h1 h2 => h.ws p (by omega) h2, h.stop⟩

theorem Sk.here {g : Nat → Int} {n i j : Nat} (h : Sk g n i j) (hw : isWs (g i) = false) : i = j := by
  have := h.le
  by_cases e : i < j
  · have a := h.ws i (Nat.le_refl _) e
    rw [hw] at a; cases a
  · omega

theorem Sk.end_ {g : Nat → Int} {n i j : Nat} (h : Sk g n i j) (hi : n ≤ i) : i = j := by
  have := h.le; have := h.top; omega

/-- What follows a value: the end, or a byte that ends a scalar. -/
def Delim (g : Nat → Int) (n e : Nat) : Prop := e < n → endS (g e) = true

theorem Sk.delim {g : Nat → Int} {n e q : Nat} (h : Sk g n e q) (he : endS (g q) = true) : Delim g n e := by
  intro _
  have := h.le
  by_cases c : e < q
  · exact isWs_endS (h.ws e (Nat.le_refl _) c)
  · have : e = q := by omega
    rw [this]; exact he

theorem Sk.delim_end {g : Nat → Int} {n e : Nat} (h : Sk g n e n) : Delim g n e :=
  fun he => isWs_endS (h.ws e (Nat.le_refl _) he)

/-! ### strings -/
/-- Behind a string's opening quote: where it ends. -/
def strF (g : Nat → Int) (n : Nat) : Nat → Nat → Option Nat
  | 0, _ => none
  | f + 1, p => if p < n then (if g p = 34 then some (p + 1) else if g p = 92 then strF g n f (p + 2) else strF g n f (p + 1)) else none

def StrTo (g : Nat → Int) (n p e : Nat) : Prop := ∃ f, strF g n f p = some e

theorem strF_lt {g : Nat → Int} {n : Nat} : ∀ (f p e : Nat), strF g n f p = some e → p < n ∧ p < e ∧ e ≤ n := by
  intro f
  induction f with
  | zero => intro p e h; simp [strF] at h
  | succ f ih =>
    intro p e h
    unfold strF at h
    split at h
    · rename_i hp
      split at h
      · cases h; omega
      · split at h
        · have := ih _ _ h; omega
        · have := ih _ _ h; omega
    · cases h

theorem StrTo.lt {g : Nat → Int} {n p e : Nat} (h : StrTo g n p e) : p < n ∧ p < e ∧ e ≤ n := by
  obtain ⟨f, h⟩ := h; exact strF_lt f p e h

theorem StrTo.quote {g : Nat → Int} {n p : Nat} (hp : p < n) (hq : g p = 34) : StrTo g n p (p + 1) := ⟨1, by simp [strF, hp, hq]⟩

theorem StrTo.esc {g : Nat → Int} {n p e : Nat} (hp : p < n) (hq : g p = 92) (h : StrTo g n (p + 2) e) : StrTo g n p e := by
  obtain ⟨f, h⟩ := h
  exact ⟨f + 1, by simp [strF, hp, hq, h]⟩

theorem StrTo.plain {g : Nat → Int} {n p e : Nat} (hp : p < n) (h34 : ¬ g p = 34) (h92 : ¬ g p = 92) (h : StrTo g n (p + 1) e) : StrTo g n p e := by
  obtain ⟨f, h⟩ := h
  exact ⟨f + 1, by simp [strF, hp, h34, h92, h]⟩

theorem StrTo.quote_inv {g : Nat → Int} {n p e : Nat} (h : StrTo g n p e) (hq : g p = 34) : e = p + 1 := by
  have hp := h.lt.1
  obtain ⟨f, h⟩ := h
  cases f with
  | zero => simp [strF] at h
  | succ f => simp [strF, hp, hq] at h; exact h.symm

theorem StrTo.esc_inv {g : Nat → Int} {n p e : Nat} (h : StrTo g n p e) (hq : g p = 92) : StrTo g n (p + 2) e := by
  have hp := h.lt.1
  obtain ⟨f, h⟩ := h
  cases f with
  | zero => simp [strF] at h
  | succ f => simp [strF, hp, hq] at h; exact ⟨f, h⟩

theorem StrTo.plain_inv {g : Nat → Int} {n p e : Nat} (h : StrTo g n p e) (h34 : ¬ g p = 34) (h92 : ¬ g p = 92) : StrTo g n (p + 1) e := by
  have hp := h.lt.1
  obtain ⟨f, h⟩ := h
  cases f with
  | zero => simp [strF] at h
  | succ f => simp [strF, hp, h34, h92] at h; exact ⟨f, h⟩

/-! ### values -/
/-- A number, true, false, null: no byte in it ends a scalar. -/
structure Scal (g : Nat → Int) (n s e : Nat) : Prop where
  lt : s < e
  le : e ≤ n
  no : ∀ p, s ≤ p → p < e → endS (g p) = false

/-- A member of an object: the name's quote at k; the value from a to b. -/
def Mem (V : Nat → Nat → Prop) (g : Nat → Int) (n k a b : Nat) : Prop :=
  ∃ kb c, k < n ∧ g k = 34 ∧ StrTo g n (k + 1) kb ∧ Sk g n kb c ∧ c < n ∧ g c = 58 ∧ Sk g n (c + 1) a ∧ V a b

/-- Behind an element that ended at p: the elements l are still to come, the array ends at e. -/
def ArrT (V : Nat → Nat → Prop) (g : Nat → Int) (n : Nat) : List (Nat × Nat) → Nat → Nat → Prop
  | [], p, e => ∃ q, Sk g n p q ∧ q < n ∧ g q = 93 ∧ e = q + 1
  | (a, b) :: l, p, e => ∃ q, Sk g n p q ∧ q < n ∧ g q = 44 ∧ Sk g n (q + 1) a ∧ V a b ∧ ArrT V g n l b e

/-- The array that opens at s: its elements, its end. -/
def ArrL (V : Nat → Nat → Prop) (g : Nat → Int) (n s e : Nat) : List (Nat × Nat) → Prop
  | [] => ∃ q, Sk g n (s + 1) q ∧ q < n ∧ g q = 93 ∧ e = q + 1
  | (a, b) :: l => Sk g n (s + 1) a ∧ V a b ∧ ArrT V g n l b e

def ObjT (V : Nat → Nat → Prop) (g : Nat → Int) (n : Nat) : Nat → Nat → Nat → Prop
  | 0, p, e => ∃ q, Sk g n p q ∧ q < n ∧ g q = 125 ∧ e = q + 1
  | m + 1, p, e => ∃ q k a b, Sk g n p q ∧ q < n ∧ g q = 44 ∧ Sk g n (q + 1) k ∧ Mem V g n k a b ∧ ObjT V g n m b e

def ObjL (V : Nat → Nat → Prop) (g : Nat → Int) (n s e : Nat) : Prop :=
  (∃ q, Sk g n (s + 1) q ∧ q < n ∧ g q = 125 ∧ e = q + 1) ∨ ∃ k a b m, Sk g n (s + 1) k ∧ Mem V g n k a b ∧ ObjT V g n m b e

/-- A value from s to e, nested at most so deep. -/
def Val (g : Nat → Int) (n : Nat) : Nat → Nat → Nat → Prop
  | 0, _, _ => False
  | d + 1, s, e => s < n ∧ ((g s = 123 ∧ ObjL (Val g n d) g n s e) ∨ (g s = 91 ∧ ∃ l, ArrL (Val g n d) g n s e l) ∨ (g s = 34 ∧ StrTo g n (s + 1) e) ∨
      (¬ g s = 123 ∧ ¬ g s = 91 ∧ ¬ g s = 34 ∧ Scal g n s e))

theorem arrT_lt {V : Nat → Nat → Prop} {g : Nat → Int} {n : Nat} (hV : ∀ a b, V a b → a < b ∧ b ≤ n) : ∀ (l : List (Nat × Nat)) (p e : Nat), ArrT V g n l p e → p < e ∧ e ≤ n := by
  intro l
  induction l with
  | nil => rintro p e ⟨q, h1, h2, _, rfl⟩; have := h1.le; omega
  | cons x l ih =>
    obtain ⟨a, b⟩ := x
    rintro p e ⟨q, h1, h2, _, h3, h4, h5⟩
    have := h1.le; have := h3.le; have := hV a b h4; have := ih b e h5
    omega

theorem objT_lt {V : Nat → Nat → Prop} {g : Nat → Int} {n : Nat} (hV : ∀ a b, V a b → a < b ∧ b ≤ n) : ∀ (m p e : Nat), ObjT V g n m p e → p < e ∧ e ≤ n := by
  intro m
  induction m with
  | zero => rintro p e ⟨q, h1, h2, _, rfl⟩; have := h1.le; omega
  | succ m ih =>
    rintro p e ⟨q, k, a, b, h1, h2, _, h3, ⟨kb, c, h4, _, h5, h6, h7, _, h8, h9⟩, h10⟩
    have := h1.le; have := h3.le; have := h5.lt; have := h6.le; have := h8.le; have := hV a b h9; have := ih b e h10
    omega

theorem Val.lt {g : Nat → Int} {n : Nat} : ∀ {d s e : Nat}, Val g n d s e → s < e ∧ e ≤ n := by
  intro d
  induction d with
  | zero => intro s e h; exact h.elim
  | succ d ih =>
    intro s e h
    obtain ⟨hs, h⟩ := h
    rcases h with ⟨_, h⟩ | ⟨_, l, h⟩ | ⟨_, h⟩ | ⟨_, _, _, h⟩
    · rcases h with ⟨q, h1, h2, _, rfl⟩ | ⟨k, a, b, m, h1, ⟨kb, c, h4, _, h5, h6, h7, _, h8, h9⟩, h10⟩
      · have := h1.le; omega
      · have := h1.le; have := h5.lt; have := h6.le; have := h8.le; have := ih h9; have := objT_lt (fun a b => ih) m b e h10
        omega
    · cases l with
      | nil => obtain ⟨q, h1, h2, _, rfl⟩ := h; have := h1.le; omega
      | cons x l =>
        obtain ⟨a, b⟩ := x
        obtain ⟨h1, h2, h3⟩ := h
        have := h1.le; have := ih h2; have := arrT_lt (fun a b => ih) l b e h3
        omega
    · have := h.lt; omega
    · have := h.lt; have := h.le; omega

/-- The byte at which a value begins ends no scalar. -/
theorem Val.start {g : Nat → Int} {n d s e : Nat} (h : Val g n d s e) : s < n ∧ endS (g s) = false := by
  cases d with
  | zero => exact h.elim
  | succ d =>
    obtain ⟨hs, h⟩ := h
    refine ⟨hs, ?_⟩
    rcases h with ⟨h, _⟩ | ⟨h, _⟩ | ⟨h, _⟩ | ⟨_, _, _, h⟩
    · rw [h]; decide
    · rw [h]; decide
    · rw [h]; decide
    · exact h.no s (Nat.le_refl _) h.lt

theorem endS_no {c : Int} (h : endS c = false) : isWs c = false ∧ ¬ c = 44 ∧ ¬ c = 93 ∧ ¬ c = 125 := by
  simp [endS] at h
  obtain ⟨⟨⟨h1, h2⟩, h3⟩, h4⟩ := h
  exact ⟨h1, h2, h3, h4⟩

/-! ### the tables: for each position where a value begins, its end and its container -/
def GoodAt (g : Nat → Int) (n p : Nat) (x : Int) : Prop := ∃ k b : Nat, x = (b : Int) ∧ Val g n k p b ∧ Delim g n b

/-- What has been written of the container that opens at 'op' once all values ahead of i have been read; l: the values that it holds itself. -/
structure Rec (g : Nat → Int) (n op i : Nat) (l : List (Nat × Nat)) (E0 P0 E P : Nat → Int) : Prop where
  lt : op < i
  lo : ∀ p, p ≤ op → E p = E0 p ∧ P p = P0 p
  hi : ∀ p, i ≤ p → E p = E0 p ∧ P p = P0 p
  good : ∀ p, op < p → p < i → 0 ≤ E p → GoodAt g n p (E p)
  par : ∀ p, op < p → p < i → 0 ≤ E p → (∃ b, (p, b) ∈ l) ∨ (op : Int) < P p
  mem : ∀ a b, (a, b) ∈ l → E a = (b : Int) ∧ P a = (op : Int) ∧ op < a ∧ a < i

/-- What a value that was read leaves behind it. -/
structure VPost (g : Nat → Int) (n k i e : Nat) (parent : Int) (E P E' P' : Nat → Int) : Prop where
  val : Val g n k i e
  lo : ∀ p, p < i → E' p = E p ∧ P' p = P p
  hi : ∀ p, e ≤ p → E' p = E p ∧ P' p = P p
  here : E' i = (e : Int) ∧ P' i = parent
  good : ∀ p, i < p → p < e → 0 ≤ E' p → GoodAt g n p (E' p) ∧ (i : Int) ≤ P' p
  arr : g i = 91 → ∃ l d, ArrL (Val g n d) g n i e l ∧ (∀ a b, (a, b) ∈ l → E' a = (b : Int) ∧ P' a = (i : Int) ∧ i < a ∧ a < e) ∧
    (∀ p, i < p → p < e → 0 ≤ E' p → (∃ b, (p, b) ∈ l) ∨ (i : Int) < P' p)

theorem Rec.begin (g : Nat → Int) (n op : Nat) (E0 P0 : Nat → Int) : Rec g n op (op + 1) [] E0 P0 E0 P0 :=
  ⟨by omega, fun _ _ => ⟨rfl, rfl⟩, fun _ _ => ⟨rfl, rfl⟩, fun p h1 h2 => by omega, fun p h1 h2 => by omega, fun a b h => by cases h⟩

theorem Rec.adv {g : Nat → Int} {n op i j : Nat} {l : List (Nat × Nat)} {E0 P0 E P : Nat → Int} (h : Rec g n op i l E0 P0 E P) (hij : i ≤ j) (h0 : ∀ p, op ≤ p → E0 p = -1) : Rec g n op j l E0 P0 E P := by
  have hlt := h.lt
  refine ⟨by omega, h.lo, fun p hp => h.hi p (by omega), fun p h1 h2 h3 => ?_, fun p h1 h2 h3 => ?_, fun a b hab => ?_⟩
  · by_cases c : p < i
    · exact h.good p h1 c h3
    · rw [(h.hi p (by omega)).1, h0 p (by omega)] at h3; omega
  · by_cases c : p < i
    · exact h.par p h1 c h3
    · rw [(h.hi p (by omega)).1, h0 p (by omega)] at h3; omega
  · have := h.mem a b hab
    exact ⟨this.1, this.2.1, this.2.2.1, by omega⟩

theorem Rec.value {g : Nat → Int} {n op i b k : Nat} {l : List (Nat × Nat)} {E0 P0 E P E' P' : Nat → Int} (h : Rec g n op i l E0 P0 E P) (v : VPost g n k i b (op : Int) E P E' P') (hd : Delim g n b) : Rec g n op b (l ++ [(i, b)]) E0 P0 E' P' := by
  have hlt := h.lt
  have hib := v.val.lt
  refine ⟨by omega, fun p hp => ?_, fun p hp => ?_, fun p h1 h2 h3 => ?_, fun p h1 h2 h3 => ?_, fun a c hac => ?_⟩
  · have a := v.lo p (by omega); have c := h.lo p hp
    exact ⟨a.1.trans c.1, a.2.trans c.2⟩
  · have a := v.hi p hp; have c := h.hi p (by omega)
    exact ⟨a.1.trans c.1, a.2.trans c.2⟩
  · rcases Nat.lt_trichotomy p i with c | c | c
    · have a := v.lo p c
      rw [a.1] at h3 ⊢
      exact h.good p h1 c h3
    · subst c
      exact ⟨k, b, v.here.1, v.val, hd⟩
    · exact (v.good p c h2 h3).1
  · rcases Nat.lt_trichotomy p i with c | c | c
    · have a := v.lo p c
      rw [a.1] at h3
      rcases h.par p h1 c h3 with ⟨x, hx⟩ | hx
      · exact .inl ⟨x, by simp [hx]⟩
      · exact .inr (by rw [a.2]; exact hx)
    · subst c
      exact .inl ⟨b, by simp⟩
    · exact .inr (by have := (v.good p c h2 h3).2; omega)
  · simp at hac
    rcases hac with hac | ⟨rfl, rfl⟩
    · have m := h.mem a c hac
      have x := v.lo a m.2.2.2
      exact ⟨x.1.trans m.1, x.2.trans m.2.1, m.2.2.1, by omega⟩
    · exact ⟨v.here.1, v.here.2, by omega, by omega⟩

/-- A table with one cell written. -/
def upd (E : Nat → Int) (i : Nat) (x : Int) : Nat → Int := fun p => if p = i then x else E p
theorem upd_same (E : Nat → Int) (i : Nat) (x : Int) : upd E i x i = x := by simp [upd]
theorem upd_other (E : Nat → Int) (i p : Nat) (x : Int) (h : p ≠ i) : upd E i x p = E p := by simp [upd, h]

/-- A container, read to its end. -/
theorem VPost.container {g : Nat → Int} {n i e k d : Nat} {parent : Int} {l : List (Nat × Nat)} {E P E' P' : Nat → Int} (h : Rec g n i e l E P E' P') (hv : Val g n k i e) (ha : g i = 91 → ArrL (Val g n d) g n i e l) :
    VPost g n k i e parent E P (upd E' i e) (upd P' i parent) := by
  have hlt := h.lt
  refine ⟨hv, fun p hp => ?_, fun p hp => ?_, ⟨upd_same _ _ _, upd_same _ _ _⟩, fun p h1 h2 h3 => ?_, fun h91 => ⟨l, d, ha h91, fun a b hab => ?_, fun p h1 h2 h3 => ?_⟩⟩
  · rw [upd_other _ _ _ _ (by omega), upd_other _ _ _ _ (by omega)]
    exact h.lo p (by omega)
  · rw [upd_other _ _ _ _ (by omega), upd_other _ _ _ _ (by omega)]
    exact h.hi p hp
  · rw [upd_other _ _ _ _ (by omega)] at h3 ⊢
    rw [upd_other _ _ _ _ (by omega)]
    refine ⟨h.good p h1 h2 h3, ?_⟩
    rcases h.par p h1 h2 h3 with ⟨b, hb⟩ | hb
    · rw [(h.mem p b hb).2.1]; omega
    · omega
  · have m := h.mem a b hab
    rw [upd_other _ _ _ _ (by omega), upd_other _ _ _ _ (by omega)]
    exact m
  · rw [upd_other _ _ _ _ (by omega)] at h3
    rw [upd_other _ _ _ _ (by omega)]
    exact h.par p h1 h2 h3

/-- A value that holds no other. -/
theorem VPost.leaf {g : Nat → Int} {n i e k : Nat} {parent : Int} {E P : Nat → Int} (hv : Val g n k i e) (h0 : ∀ p, i ≤ p → E p = -1) (hn : ¬ g i = 91) :
    VPost g n k i e parent E P (upd E i e) (upd P i parent) := by
  have hlt := hv.lt
  refine ⟨hv, fun p hp => ?_, fun p hp => ?_, ⟨upd_same _ _ _, upd_same _ _ _⟩, fun p h1 h2 h3 => ?_, fun h91 => absurd h91 hn⟩
  · rw [upd_other _ _ _ _ (by omega), upd_other _ _ _ _ (by omega)]; exact ⟨rfl, rfl⟩
  · rw [upd_other _ _ _ _ (by omega), upd_other _ _ _ _ (by omega)]; exact ⟨rfl, rfl⟩
  · rw [upd_other _ _ _ _ (by omega), h0 p (by omega)] at h3; omega

end Go.Proofs.Qxb6603692a
