import Derived.Test.Qxb6603692aElems
namespace Go.Proofs.Qxb6603692a
open Go.RowKit

/-- What 'arrayElements' hands back: a row of the elements' slices; nil where there is none. -/
def ElemsRes (bt off cap : Nat) (l : List (Nat × Nat)) (w : World) (r : Ending) (w' : World) : Prop :=
  ∃ (v : Value) (B : Nat), r = .returned v ∧ w'.ownsRow B 26 1 v l.length (els bt off cap l) ∧ (l.length = 0 → v = .slice none 0 0) ∧ Below w.heap.size w w'

theorem elems_of {bf bw bt off cap : Nat} {l : List (Nat × Nat)} {w0 : World} {v : Value} {w : World} (h : Found bf bw bt off cap l w0 l.length v w) (hbw : bw = w0.heap.size) : ElemsRes bt off cap l w0 (.returned v) w := by
  have ho := h.own
  rw [List.take_length] at ho
  exact ⟨v, _, rfl, ho, h.nil, by rw [← hbw]; exact h.below⟩

set_option maxRecDepth 100000 in
set_option maxHeartbeats 800000 in
theorem arrayElements_any (d bt off n cap top e0 : Nat) (g : Nat → Int) (l : List (Nat × Nat)) (w : World) (hn : n ≤ 1048576) (hcap : n ≤ cap) (ht : TextAt w bt off n g) (hbt : bt < w.heap.size) (hSk : Sk g n 0 top) (htop : top < n) (hL : ArrL (Val g n d) g n top e0 l) :
    Calls Try.prog 27 #[.slice (some ⟨bt, off, none⟩) n cap] w (ElemsRes bt off cap l w) := by
  have hmf := makes
  have hll := arrL_count (fun a b h => Val.lt h) l top e0 hL
  have hA : At (w.alloc (.cells #[.slice (some ⟨bt, off, none⟩) n cap, .int .i64 0] 43)) w.heap.size bt off n cap g 0 := by
    have hb : (w.alloc (.cells #[.slice (some ⟨bt, off, none⟩) n cap, .int .i64 0] 43)).heap[w.heap.size]? = some (.cells #[.slice (some ⟨bt, off, none⟩) n cap, .int .i64 0] 43 (0, 0)) := heap_alloc_new w _
    have hB : Below w.heap.size w (w.alloc (.cells #[.slice (some ⟨bt, off, none⟩) n cap, .int .i64 0] 43)) := (Below.refl _ _).alloc (Nat.le_refl _) _
    exact ⟨by simp only [World.cell?, hb]; simp, by simp only [World.cell?, hb]; simp, by simp only [World.frozen?, hb]; simp, fun i hi => (hB.cell (p := ⟨bt, off + i, none⟩) hbt).trans (ht i hi), by omega⟩
  have hB0 : Below w.heap.size w (w.alloc (.cells #[.slice (some ⟨bt, off, none⟩) n cap, .int .i64 0] 43)) := (Below.refl _ _).alloc (Nat.le_refl _) _
  have hsz : w.heap.size < (w.alloc (.cells #[.slice (some ⟨bt, off, none⟩) n cap, .int .i64 0] 43)).heap.size := by simp
  go_enter Try.func27, Try.ntmps27
  go_wp2_with fail
  refine (skipSpace_any w.heap.size bt off n cap 0 top g _ hn hA hSk).mono ?_
  rintro r w1 ⟨rfl, hA1, hK1⟩
  have hsz1 : w.heap.size < w1.heap.size := Nat.lt_of_lt_of_le hsz hK1.size
  have hF : Found w1.heap.size w.heap.size bt off cap l w 0 (.slice none 0 0) (w1.alloc (.cells #[.slice none 0 0] 37)) :=
    ⟨heap_alloc_new w1 _, by simpa [els] using World.ownsRow_nil _ _ _ _, fun _ => rfl, ⟨hbt, hsz1⟩, (hB0.trans (hK1.below (Nat.le_of_lt hsz))).alloc (Nat.le_of_lt hsz1) _⟩
  have hA2 := hA1.alloc (.cells #[.slice none 0 0] 37)
  clear hA hB0 hsz hK1 hA1
  go_wp2_with fail
  refine (eachElement_any d w.heap.size bt off n cap top e0 g l 42 _ (fun k w' => ∃ v, Found w1.heap.size w.heap.size bt off cap l w k v w') _ hn hA2 htop hL ⟨_, hF⟩ (fun _ _ _ h k => ⟨_, h.choose_spec.kept k⟩) (visit42 d w1.heap.size w.heap.size bt off n cap g l w hn hcap (by omega)) (by omega) enters42).mono ?_
  rintro r w2 ⟨rfl, hA3, v, hF2⟩
  have R := elems_of hF2 rfl
  obtain ⟨ao, cp, rfl⟩ := hF2.shape
  have hc := cell_of_box hF2.box
  clear hF hA2 hA3 hF2
  go_wp2_with fail
  go_ret
  exact R

set_option maxHeartbeats 400000 in
theorem zzArrayElements_any (d bt off n cap top e0 : Nat) (g : Nat → Int) (l : List (Nat × Nat)) (w : World) (hn : n ≤ 1048576) (hcap : n ≤ cap) (ht : TextAt w bt off n g) (hbt : bt < w.heap.size) (hSk : Sk g n 0 top) (htop : top < n) (hL : ArrL (Val g n d) g n top e0 l) :
    Calls Try.prog 22 #[.slice (some ⟨bt, off, none⟩) n cap] w (ElemsRes bt off cap l w) := by
  go_enter Try.func22, Try.ntmps22
  go_wp2_with fail
  refine (arrayElements_any d bt off n cap top e0 g l w hn hcap ht hbt hSk htop hL).mono ?_
  rintro r w1 ⟨v, B, rfl, h1, h2, h3⟩
  go_wp2_with fail
  go_ret
  exact ⟨v, B, rfl, h1, h2, h3⟩
end Go.Proofs.Qxb6603692a
