import Derived.Test.Qxb6603692aZZ
import Derived.Deep.RegionLaw
import Derived.Deep.RegionWith
import Derived.Deep.AppendLies
import Derived.Deep.DrawnRows
import Derived.StillTactics
import Derived.Laws.Pointers
namespace Go.Proofs.Qxb6603692a
open Go.RowKit
attribute [local go_sem ↓] Go.wp_at_zero Go.wp_at_succ

theorem info26 : (Try.prog.info? 26).map (fun i => (i.zero, i.size, i.bytes)) = some (some (.slice none 0 0), 1, 24) := by kernel_rfl

/-- The element (a, b) of the text, as a slice. -/
def elv (bt off cap : Nat) (x : Nat × Nat) : Value := .slice (some ⟨bt, off + x.1, none⟩) (x.2 - x.1) (cap - x.1)
def els (bt off cap : Nat) (l : List (Nat × Nat)) : List Value := l.map (elv bt off cap)

/-- 'found' in block bf holds the first k elements. -/
structure Found (bf bw bt off cap : Nat) (l : List (Nat × Nat)) (w0 : World) (k : Nat) (v : Value) (w : World) : Prop where
  box : w.heap[bf]? = some (.cells #[v] 37 (0, 0))
  own : w.ownsRow (bf + 1) 26 1 v k (els bt off cap (l.take k))
  nil : k = 0 → v = .slice none 0 0
  ord : bt < bw ∧ bw < bf
  below : Below bw w0 w

theorem Found.shape {bf bw bt off cap : Nat} {l : List (Nat × Nat)} {w0 : World} {k : Nat} {v : Value} {w : World} (h : Found bf bw bt off cap l w0 k v w) : ∃ ao cp, v = .slice ao k cp := by
  rcases h.own.2 with ⟨hv, h0⟩ | ⟨g, cp, cur, hv, _⟩
  · exact ⟨none, 0, by rw [hv, h0]⟩
  · exact ⟨_, _, hv⟩

theorem Found.far {bf bw bt off cap : Nat} {l : List (Nat × Nat)} {w0 : World} {k : Nat} {v : Value} {w : World} (h : Found bf bw bt off cap l w0 k v w) (b : Nat) (hb : b ≤ bf) : v.ownBlock ≠ some b := by
  intro e
  have := (h.own.lt b e).1
  omega

theorem Found.lt {bf bw bt off cap : Nat} {l : List (Nat × Nat)} {w0 : World} {k : Nat} {v : Value} {w : World} (h : Found bf bw bt off cap l w0 k v w) : bf < w.heap.size := by
  rcases Nat.lt_or_ge bf w.heap.size with h' | h'
  · exact h'
  · have := h.box; rw [Array.getElem?_eq_none h'] at this; cases this

theorem Found.kept {bf bw bt off cap : Nat} {l : List (Nat × Nat)} {w0 : World} {k : Nat} {v : Value} {w w' : World} (h : Found bf bw bt off cap l w0 k v w) (hk : Kept bw w w') : Found bf bw bt off cap l w0 k v w' := by
  have hlt := h.lt
  have ho := h.ord
  refine ⟨(hk.block bf hlt (by omega)).trans h.box, ?_, h.nil, h.ord, h.below.trans (hk.below (by omega))⟩
  exact h.own.kept (row := some bw) ⟨hk.os, hk.tape, hk.output, hk.size, fun b hb hne => hk.block b hb (fun e => hne (by rw [e]))⟩ (.inr (h.far bw (by omega)))

theorem cell_of_box {w : World} {bf : Nat} {v : Value} (h : w.heap[bf]? = some (.cells #[v] 37 (0, 0))) : w.cell? ⟨bf, 0, none⟩ = some v := by simp [World.cell?, h]

theorem base_le {bf bw bt off cap : Nat} {l : List (Nat × Nat)} {w0 : World} {k : Nat} {v : Value} {w : World} {o : Obj} (h : Found bf bw bt off cap l w0 k v w) : bf + 1 ≤ (w.alloc o).heap.size := by
  have := h.lt; simp; omega
theorem found_block {bf bw bt off cap : Nat} {l : List (Nat × Nat)} {w0 : World} {k : Nat} {v : Value} {w w2 : World} {o : Obj} (h : Found bf bw bt off cap l w0 k v w) (hg : (w.alloc o).grownBy w2 v.ownBlock) (b : Nat) (hb : b ≤ bf) : w2.heap[b]? = w.heap[b]? := by
  have hlt := h.lt
  rw [hg.block b (by simp; omega) (fun e => h.far b hb e.symm), Below.heap_alloc _ _ _ (by omega)]
theorem found_far {bf bw bt off cap : Nat} {l : List (Nat × Nat)} {w0 : World} {k : Nat} {v : Value} {w w2 : World} {o : Obj} (h : Found bf bw bt off cap l w0 k v w) (hg : (w.alloc o).grownBy w2 v.ownBlock) : w2.cell? ⟨bf, 0, none⟩ = some v :=
  cell_of_box ((found_block h hg bf (Nat.le_refl _)).trans h.box)

theorem found_free {bf bw bt off cap : Nat} {l : List (Nat × Nat)} {w0 : World} {k : Nat} {v : Value} {w w2 : World} {o : Obj} (h : Found bf bw bt off cap l w0 k v w) (hg : (w.alloc o).grownBy w2 v.ownBlock) : w2.frozen? ⟨bf, 0, none⟩ = false := by
  have := (found_block h hg bf (Nat.le_refl _)).trans h.box
  simp [World.frozen?, this]

theorem els_succ {bt off cap : Nat} {l : List (Nat × Nat)} {k : Nat} {x : Nat × Nat} (h : l[k]? = some x) : els bt off cap (l.take (k + 1)) = els bt off cap (l.take k) ++ [elv bt off cap x] := by
  obtain ⟨hk, hx⟩ := List.getElem?_eq_some_iff.1 h
  rw [List.take_succ_eq_append_getElem hk, hx]
  simp [els]

theorem found_next {bf bw bt off cap gg cap' : Nat} {l : List (Nat × Nat)} {w0 : World} {k : Nat} {v : Value} {w w2 : World} {o : Obj} {x : Nat × Nat} (h : Found bf bw bt off cap l w0 k v w) (hg : (w.alloc o).grownBy w2 v.ownBlock) (hx : l[k]? = some x)
    (hown : w2.ownsRow (bf + 1) 26 1 (.slice (some ⟨gg, 0, none⟩) (k + 1) cap') (k + 1) (els bt off cap (l.take k) ++ [elv bt off cap x])) :
    Found bf bw bt off cap l w0 (k + 1) (.slice (some ⟨gg, 0, none⟩) (k + 1) cap') (w2.setCell ⟨bf, 0, none⟩ (.slice (some ⟨gg, 0, none⟩) (k + 1) cap')) := by
  have hlt := h.lt
  have ho := h.ord
  have hb2 := (found_block h hg bf (Nat.le_refl _)).trans h.box
  refine ⟨by simp [World.setCell, Array.getElem?_modify, hb2], ?_, fun e => by omega, ho, ?_⟩
  · rw [els_succ hx]
    exact ownsRow_setCell_below hown (a := ⟨bf, 0, none⟩) (Nat.lt_succ_self _) _
  · refine Below.setCell ?_ (p := ⟨bf, 0, none⟩) (Nat.le_of_lt ho.2) _
    exact (h.below.alloc (by omega) _).grown hg (by simp; omega) (fun b hb => by have := (h.own.lt b hb).1; omega)

theorem at_next {bf bw bt off n cap p : Nat} {l : List (Nat × Nat)} {g : Nat → Int} {w0 : World} {k : Nat} {v v' : Value} {w w2 : World} {o : Obj} (h : Found bf bw bt off cap l w0 k v w) (hg : (w.alloc o).grownBy w2 v.ownBlock) (hA : At w bw bt off n cap g p) :
    At (w2.setCell ⟨bf, 0, none⟩ v') bw bt off n cap g p := by
  have ho := h.ord
  have hb : ∀ b, b < bf → (w2.setCell ⟨bf, 0, none⟩ v').heap[b]? = w.heap[b]? := fun b hb => by
    rw [Below.heap_setCell _ _ _ _ (by simp; omega)]; exact found_block h hg b (by omega)
  exact ⟨(World.cell?_of_block (w := w) (hb bw (by omega))).trans hA.text, (World.cell?_of_block (w := w) (hb bw (by omega))).trans hA.pos, (World.frozen?_of_block (w := w) (hb bw (by omega))).trans hA.free,
    fun i hi => (World.cell?_of_block (w := w) (hb bt (by omega))).trans (hA.bytes i hi), hA.ne⟩

set_option maxRecDepth 100000 in
set_option maxHeartbeats 1600000 in
theorem visit42 (d bf bw bt off n cap : Nat) (g : Nat → Int) (l : List (Nat × Nat)) (w0 : World) (hn : n ≤ 1048576) (hcap : n ≤ cap) (hl : l.length ≤ 1048576) :
    VisitOk (Val g n d) g bw bt off n cap l 42 #[.pointer (some ⟨bf, 0, none⟩), .pointer (some ⟨bw, 0, none⟩)] (fun k w => ∃ v, Found bf bw bt off cap l w0 k v w) := by
  rintro k a b p w hlk hV hD hSk hA ⟨v, hF⟩
  show Calls Try.prog 42 #[.int .i64 (k : Int), .pointer (some ⟨bf, 0, none⟩), .pointer (some ⟨bw, 0, none⟩)] w _
  obtain ⟨i0, hi0, hz0, hz1, hz2⟩ := info_parts info26
  have hkl : k < l.length := (List.getElem?_eq_some_iff.1 hlk).1
  obtain ⟨ao, cp, rfl⟩ := hF.shape
  have hc0 : w.cell? ⟨bf, 0, none⟩ = some (.slice ao k cp) := by simp [World.cell?, hF.box]
  have hord := hF.ord
  have hAd : At w.drew bw bt off n cap g p := ⟨hA.text, hA.pos, hA.free, hA.bytes, hA.ne⟩
  have hFk : ∀ w1, Kept bw w.drew w1 → Found bf bw bt off cap l w0 k (.slice ao k cp) w1 := fun w1 hK => hF.kept ⟨hK.os, hK.tape, hK.output, hK.size, hK.block⟩
  have hNext := nexts_ok d bw bt off n cap p a b g w.drew hn hcap hAd hSk hV hD


  clear hNext
  go_enter Try.func42, Try.ntmps42
  go_wp2_with fail
  go_region_law
    (first
      | (refine step_append_lies _ (by rfl) _ _ _ (by rfl) (bf + 1) 26 i0 _ 1 24 Try.underlying37 hi0 hz0 hz1 hz2 rfl (by omega) (.slice ao k cp) k (els bt off cap (l.take k)) (by rfl) (World.ownsRow.alloc hF1.own _) ⟨w1.heap.size, 0, none⟩ 1 1 [elv bt off cap (a, b)] (by rfl) (by rfl) (World.news_of_block (cs := #[elv bt off cap (a, b)]) (t := 26) (fr := (0, 0)) (heap_alloc_new w1 _)) (by simp [Value.oneCell', elv]) (by omega) (by unfold maxLen; omega) (by omega) (base_le hF1) (w1.heap.size + 1) (by simp) ?_; intro gg cap' w2 hown2 hgrow hat hlt; have hc2 := found_far hF1 hgrow; have hf2 := found_free hF1 hgrow)
      | (go_simp; go_at_call 26; refine (nexts_ok d bw bt off n cap p a b g w.drew hn hcap hAd hSk hV hD).mono ?_; rintro r w1 ⟨rfl, hA1, hK1⟩; have hF1 := hFk w1 hK1; have hc1 : w1.cell? ⟨bf, 0, none⟩ = some (.slice ao k cp) := cell_of_box hF1.box; have hlt1 := hF1.lt))
  all_goals
    have F1 := found_next hF1 hgrow hlk hown2
    have F2 := at_next (v' := .slice (some ⟨gg, 0, none⟩) (k + 1) cap') hF1 hgrow hA1
    clear hown2 hgrow hF1 hA1 hc1 hc2 hf2 hF hA hAd hFk hc0
    go_wp2_with fail
    go_ret
    exact ⟨rfl, F2, _, F1⟩
end Go.Proofs.Qxb6603692a
