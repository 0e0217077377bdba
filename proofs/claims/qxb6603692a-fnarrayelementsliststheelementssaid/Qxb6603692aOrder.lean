/-
  THE ELEMENTS OF AN ARRAY, IN THE ORDER OF THE TEXT: no Go in sight.
-/
import Derived.Test.Qxb6603692aJson
namespace Go.Proofs.Qxb6603692a

theorem arrT_sorted {V : Nat → Nat → Prop} {g : Nat → Int} {n : Nat} (hV : ∀ a b, V a b → a < b ∧ b ≤ n) : ∀ (l : List (Nat × Nat)) (p e : Nat), ArrT V g n l p e → (∀ x ∈ l, p < x.1) ∧ l.Pairwise (fun x y => x.1 < y.1) := by
  intro l
  induction l with
  | nil => intro p e _; exact ⟨fun x hx => by simp at hx, List.Pairwise.nil⟩
  | cons x l ih =>
    obtain ⟨a, b⟩ := x
    rintro p e ⟨q, h1, h2, _, h3, h4, h5⟩
    have l1 := h1.le; have l2 := h3.le; have l3 := hV a b h4
    obtain ⟨i1, i2⟩ := ih b e h5
    refine ⟨fun x hx => ?_, List.Pairwise.cons (fun x hx => ?_) i2⟩
    · simp at hx
      rcases hx with rfl | hx
      · show p < a; omega
      · have := i1 x hx; omega
    · have := i1 x hx
      show a < x.1
      omega

theorem arrL_sorted {V : Nat → Nat → Prop} {g : Nat → Int} {n s e : Nat} (hV : ∀ a b, V a b → a < b ∧ b ≤ n) (l : List (Nat × Nat)) (h : ArrL V g n s e l) : l.Pairwise (fun x y => x.1 < y.1) := by
  cases l with
  | nil => exact List.Pairwise.nil
  | cons x l =>
    obtain ⟨a, b⟩ := x
    obtain ⟨h1, h2, h3⟩ := h
    have l3 := hV a b h2
    obtain ⟨i1, i2⟩ := arrT_sorted hV l b e h3
    exact List.Pairwise.cons (fun x hx => by have := i1 x hx; show a < x.1; omega) i2

theorem arrT_mem {V : Nat → Nat → Prop} {g : Nat → Int} {n : Nat} : ∀ (l : List (Nat × Nat)) (p e : Nat), ArrT V g n l p e → ∀ a b, (a, b) ∈ l → V a b := by
  intro l
  induction l with
  | nil => intro p e _ a b h; cases h
  | cons x l ih =>
    obtain ⟨a, b⟩ := x
    rintro p e ⟨q, _, _, _, _, h4, h5⟩ a' b' h
    simp at h
    rcases h with ⟨rfl, rfl⟩ | h
    · exact h4
    · exact ih b e h5 a' b' h

theorem arrL_mem {V : Nat → Nat → Prop} {g : Nat → Int} {n s e : Nat} (l : List (Nat × Nat)) (h : ArrL V g n s e l) : ∀ a b, (a, b) ∈ l → V a b := by
  cases l with
  | nil => intro a b h; cases h
  | cons x l =>
    obtain ⟨a, b⟩ := x
    obtain ⟨_, h2, h3⟩ := h
    intro a' b' h
    simp at h
    rcases h with ⟨rfl, rfl⟩ | h
    · exact h2
    · exact arrT_mem l b e h3 a' b' h

/-- All that begins ahead of s has been counted: k. -/
def Counted (l : List (Nat × Nat)) (s k : Nat) : Prop := k ≤ l.length ∧ (∀ i (h : i < l.length), i < k → (l[i]).1 < s) ∧ (∀ i (h : i < l.length), k ≤ i → s ≤ (l[i]).1)

/-- The tables as the array that opens at 'top' has them. -/
structure Tables (top en n : Nat) (l : List (Nat × Nat)) (E P : Nat → Int) : Prop where
  sorted : l.Pairwise (fun x y => x.1 < y.1)
  mem : ∀ a b, (a, b) ∈ l → E a = (b : Int) ∧ P a = (top : Int) ∧ top < a ∧ a < en
  only : ∀ p, top < p → p < en → 0 ≤ E p → (∃ b, (p, b) ∈ l) ∨ (top : Int) < P p
  out : ∀ p, en ≤ p → E p = -1
  le : en ≤ n

theorem Counted.start {top en n : Nat} {l : List (Nat × Nat)} {E P : Nat → Int} (h : Tables top en n l E P) : Counted l (top + 1) 0 :=
  ⟨Nat.zero_le _, fun i _ hi => by omega, fun i hi _ => (h.mem (l[i]).1 (l[i]).2 (List.getElem_mem hi)).2.2.1⟩

/-- No element begins at s. -/
theorem Counted.skip {top en n s k : Nat} {l : List (Nat × Nat)} {E P : Nat → Int} (c : Counted l s k) (h : Tables top en n l E P) (hno : E s < 0 ∨ ¬ P s = (top : Int)) : Counted l (s + 1) k := by
  refine ⟨c.1, fun i hi hk => by have := c.2.1 i hi hk; omega, fun i hi hk => ?_⟩
  have h1 := c.2.2 i hi hk
  have h2 := h.mem (l[i]).1 (l[i]).2 (List.getElem_mem hi)
  by_cases e : (l[i]).1 = s
  · rw [e] at h2
    rcases hno with hn | hn
    · have := h2.1; omega
    · exact absurd h2.2.1 hn
  · omega

/-- An element begins at s: it is the next one. -/
theorem Counted.take {top en n s k : Nat} {l : List (Nat × Nat)} {E P : Nat → Int} (c : Counted l s k) (h : Tables top en n l E P) (hs : top < s) (hE : 0 ≤ E s) (hP : P s = (top : Int)) : ∃ b : Nat, l[k]? = some (s, b) ∧ E s = (b : Int) ∧ k < l.length ∧ Counted l (s + 1) (k + 1) := by
  have hen : s < en := by
    by_cases e : s < en
    · exact e
    · rw [h.out s (by omega)] at hE; omega
  rcases h.only s hs hen hE with ⟨b, hb⟩ | hb
  · obtain ⟨i, hi, hx⟩ := List.mem_iff_getElem.1 hb
    have hx1 : (l[i]).1 = s := by rw [hx]
    have hki : k ≤ i := by
      by_cases e : i < k
      · have := c.2.1 i hi e; omega
      · omega
    have hik : i = k := by
      by_cases e : k < i
      · have := List.pairwise_iff_getElem.1 h.sorted k i (by omega) hi e
        have h3 := c.2.2 k (by omega) (Nat.le_refl _)
        omega
      · omega
    subst hik
    refine ⟨b, by rw [List.getElem?_eq_getElem hi, hx], (h.mem s b hb).1, hi, hi, fun j hj hjk => ?_, fun j hj hjk => ?_⟩
    · by_cases e : j = i
      · subst e; omega
      · have := c.2.1 j hj (by omega); omega
    · have := List.pairwise_iff_getElem.1 h.sorted i j hi hj (by omega)
      omega
  · rw [hP] at hb; omega

theorem Counted.done {top en n k : Nat} {l : List (Nat × Nat)} {E P : Nat → Int} (c : Counted l n k) (h : Tables top en n l E P) : k = l.length := by
  by_cases e : k < l.length
  · have h1 := c.2.2 k e (Nat.le_refl _)
    have h2 := h.mem (l[k]).1 (l[k]).2 (List.getElem_mem e)
    have := h.le
    omega
  · have := c.1; omega

theorem Tables.of {g : Nat → Int} {n K d top en : Nat} {l : List (Nat × Nat)} {E P : Nat → Int} (V : VPost g n K top en (-2) (fun _ => -1) (fun _ => -1) E P) (hL : ArrL (Val g n d) g n top en l)
    (hm : ∀ a b, (a, b) ∈ l → E a = (b : Int) ∧ P a = (top : Int) ∧ top < a ∧ a < en) (ho : ∀ p, top < p → p < en → 0 ≤ E p → (∃ b, (p, b) ∈ l) ∨ (top : Int) < P p) : Tables top en n l E P :=
  ⟨arrL_sorted (fun _ _ h => Val.lt h) l hL, hm, ho, fun p hp => (V.hi p hp).1, V.val.lt.2⟩
end Go.Proofs.Qxb6603692a
