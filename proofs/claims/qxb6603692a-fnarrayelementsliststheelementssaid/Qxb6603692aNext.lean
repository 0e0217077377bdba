import Derived.Test.Qxb6603692aEachM
namespace Go.Proofs.Qxb6603692a
open Go.RowKit

theorem enters37 (args : Array Value) (w : World) : (callFunc 37 args).run Try.prog w = .ok (.enter 37 args) w := by kernel_rfl
theorem enters39 (args : Array Value) (w : World) : (callFunc 39 args).run Try.prog w = .ok (.enter 39 args) w := by kernel_rfl
theorem enters42 (args : Array Value) (w : World) : (callFunc 42 args).run Try.prog w = .ok (.enter 42 args) w := by kernel_rfl
theorem makes (fn : Fn) (first cap : Array Value) (w : World) : (Instr.makeFunc fn first cap).run Try.prog w = .ok (.func fn first cap) w := rfl

theorem cell_block_lt {w : World} {a : Addr} {v : Value} (h : w.cell? a = some v) : a.block < w.heap.size := by
  rcases Nat.lt_or_ge a.block w.heap.size with h' | h'
  · exact h'
  · simp [World.cell?, Array.getElem?_eq_none h'] at h

/-- Whatever leaves the blocks of w alone leaves the walk where it stands. -/
theorem At.alloc {w : World} {bw bt off n cap p : Nat} {g : Nat → Int} (h : At w bw bt off n cap g p) (o : Obj) : At (w.alloc o) bw bt off n cap g p := by
  have hB : Below w.heap.size w (w.alloc o) := (Below.refl _ _).alloc (Nat.le_refl _) _
  exact ⟨(hB.cell (p := ⟨bw, 0, none⟩) (cell_block_lt h.text)).trans h.text, (hB.cell (p := ⟨bw, 1, none⟩) (cell_block_lt h.pos)).trans h.pos, (hB.frozen (p := ⟨bw, 1, none⟩) (cell_block_lt h.pos)).trans h.free,
    fun i hi => (hB.cell (p := ⟨bt, off + i, none⟩) (cell_block_lt (h.bytes i hi))).trans (h.bytes i hi), h.ne⟩

/-- What 'next' does at a value nested at most d deep. -/
def NextOk (d : Nat) : Prop := ∀ (bw bt off n cap p s e0 : Nat) (g : Nat → Int) (w : World), n ≤ 1048576 → n ≤ cap → At w bw bt off n cap g p → Sk g n p s → Val g n d s e0 → Delim g n e0 →
  Calls Try.prog 26 #[.pointer (some ⟨bw, 0, none⟩)] w fun r w' => r = .returned (.slice (some ⟨bt, off + s, none⟩) (e0 - s) (cap - s)) ∧ At w' bw bt off n cap g e0 ∧ Kept bw w w'

/-- The box that the closures hold. -/
def Boxed (bw bx : Nat) (w0 w : World) : Prop := Kept bw w0 w ∧ w.cell? ⟨bx, 0, none⟩ = some (.pointer (some ⟨bw, 0, none⟩)) ∧ ¬ bx = bw

theorem boxed_kept {bw bx : Nat} {w0 w w' : World} (h : Boxed bw bx w0 w) (k : Kept bw w w') : Boxed bw bx w0 w' :=
  ⟨h.1.trans k, (k.cell (p := ⟨bx, 0, none⟩) (cell_block_lt h.2.1) h.2.2).trans h.2.1, h.2.2⟩

set_option maxHeartbeats 400000 in
theorem visit39 (d : Nat) (hd : NextOk d) (bw bt off n cap bx : Nat) (g : Nat → Int) (l : List (Nat × Nat)) (w0 : World) (hn : n ≤ 1048576) (hcap : n ≤ cap) :
    VisitOk (Val g n d) g bw bt off n cap l 39 #[.pointer (some ⟨bx, 0, none⟩)] (fun _ w => Boxed bw bx w0 w) := by
  intro k a b p w _ hV hD hSk hA hI
  show Calls Try.prog 39 #[.int .i64 (k : Int), .pointer (some ⟨bx, 0, none⟩)] w _
  have hb := hI.2.1
  go_enter Try.func39, Try.ntmps39
  go_wp2_with fail
  refine (hd bw bt off n cap p a b g _ hn hcap hA hSk hV hD).mono ?_
  rintro r w1 ⟨rfl, hA1, hK1⟩
  have hI1 := boxed_kept hI hK1
  clear hI hA hb
  go_wp2_with fail
  go_ret
  exact ⟨rfl, hA1, hI1⟩

set_option maxHeartbeats 400000 in
theorem visit37 (d : Nat) (hd : NextOk d) (bw bt off n cap bx : Nat) (g : Nat → Int) (w0 : World) (hn : n ≤ 1048576) (hcap : n ≤ cap) :
    VisitM (Val g n d) g bw bt off n cap 37 #[.pointer (some ⟨bx, 0, none⟩)] (fun w => Boxed bw bx w0 w) := by
  intro a b p tok w hV hD hSk hA hI
  show Calls Try.prog 37 #[tok, .pointer (some ⟨bx, 0, none⟩)] w _
  have hb := hI.2.1
  go_enter Try.func37, Try.ntmps37
  go_wp2_with fail
  refine (hd bw bt off n cap p a b g _ hn hcap hA hSk hV hD).mono ?_
  rintro r w1 ⟨rfl, hA1, hK1⟩
  have hI1 := boxed_kept hI hK1
  clear hI hA hb
  go_wp2_with fail
  go_ret
  exact ⟨rfl, hA1, hI1⟩

theorem Val.obj {g : Nat → Int} {n d s e : Nat} (h : Val g n (d + 1) s e) (hc : g s = 123) : ObjL (Val g n d) g n s e := by
  rcases h.2 with ⟨_, h⟩ | ⟨h, _⟩ | ⟨h, _⟩ | ⟨h, _⟩
  · exact h
  · omega
  · omega
  · omega
theorem Val.arr {g : Nat → Int} {n d s e : Nat} (h : Val g n (d + 1) s e) (hc : g s = 91) : ∃ l, ArrL (Val g n d) g n s e l := by
  rcases h.2 with ⟨h, _⟩ | ⟨_, h⟩ | ⟨h, _⟩ | ⟨_, h, _⟩
  · omega
  · exact h
  · omega
  · omega
theorem Val.str {g : Nat → Int} {n d s e : Nat} (h : Val g n (d + 1) s e) (hc : g s = 34) : StrTo g n (s + 1) e := by
  rcases h.2 with ⟨h, _⟩ | ⟨h, _⟩ | ⟨_, h⟩ | ⟨_, _, h, _⟩
  · omega
  · omega
  · exact h
  · omega
theorem Val.scal {g : Nat → Int} {n d s e : Nat} (h : Val g n (d + 1) s e) (h1 : ¬ g s = 123) (h2 : ¬ g s = 91) (h3 : ¬ g s = 34) : Scal g n s e := by
  rcases h.2 with ⟨h, _⟩ | ⟨h, _⟩ | ⟨h, _⟩ | ⟨_, _, _, h⟩
  · omega
  · omega
  · omega
  · exact h

theorem scalTo_of {g : Nat → Int} {n s e : Nat} (h : Scal g n s e) (hD : Delim g n e) : ScalTo g n s e := ⟨Nat.le_of_lt h.lt, h.le, h.no, hD⟩

/-- An array holds no more elements than the text has bytes. -/
theorem arrT_count {V : Nat → Nat → Prop} {g : Nat → Int} {n : Nat} (hV : ∀ a b, V a b → a < b ∧ b ≤ n) : ∀ (l : List (Nat × Nat)) (p e : Nat), ArrT V g n l p e → p + l.length < e ∧ e ≤ n := by
  intro l
  induction l with
  | nil => rintro p e ⟨q, h1, h2, _, rfl⟩; have := h1.le; simp; omega
  | cons x l ih =>
    obtain ⟨a, b⟩ := x
    rintro p e ⟨q, h1, h2, _, h3, h4, h5⟩
    have := h1.le; have := h3.le; have := hV a b h4; have := ih b e h5
    simp; omega
theorem arrL_count {V : Nat → Nat → Prop} {g : Nat → Int} {n : Nat} (hV : ∀ a b, V a b → a < b ∧ b ≤ n) (l : List (Nat × Nat)) (s e : Nat) (h : ArrL V g n s e l) : l.length ≤ n := by
  cases l with
  | nil => simp
  | cons x l =>
    obtain ⟨a, b⟩ := x
    obtain ⟨h1, h2, h3⟩ := h
    have := arrT_count hV l b e h3
    have := hV a b h2
    simp; omega

set_option maxRecDepth 100000 in
set_option maxHeartbeats 3200000 in
theorem next_ok (d : Nat) (hd : NextOk d) : NextOk (d + 1) := by
  intro bw bt off n cap p s e0 g w hn hcap hA hSk hV hD
  have hVl := hV.lt
  have hsn := hV.start.1
  have hmf := makes
  have hbw : bw < w.heap.size := cell_block_lt hA.text
  have HV : Hid (Val g n (d + 1) s e0) := hV
  clear hV
  have hA0 := hA.alloc (.cells #[.pointer (some ⟨bw, 0, none⟩)] 55)
  have hbx0 : (w.alloc (.cells #[.pointer (some ⟨bw, 0, none⟩)] 55)).cell? ⟨w.heap.size, 0, none⟩ = some (.pointer (some ⟨bw, 0, none⟩)) := by simp
  have hK0 : Kept bw w (w.alloc (.cells #[.pointer (some ⟨bw, 0, none⟩)] 55)) := (Kept.refl _ _).alloc _
  have hne : ¬ w.heap.size = bw := by omega
  have hlt0 : w.heap.size < (w.alloc (.cells #[.pointer (some ⟨bw, 0, none⟩)] 55)).heap.size := by simp
  go_enter Try.func26, Try.ntmps26
  go_wp2_with fail
  refine (skipSpace_any bw bt off n cap p s g _ hn hA0 hSk).mono ?_
  rintro r w1 ⟨rfl, hA1, hK1⟩
  have hB1 : Boxed bw w.heap.size w w1 := ⟨hK0.trans hK1, (hK1.cell (p := ⟨w.heap.size, 0, none⟩) hlt0 hne).trans hbx0, hne⟩
  clear hA0 hbx0 hK0 hK1 hlt0 hA
  have hbx := hB1.2.1
  have ht := hA1.text
  have hp := hA1.pos
  have hf := hA1.free
  have hc := hA1.bytes s hsn
  have z1 : (s : Int) < (n : Int) := by omega
  have z2 : (0 : Int) ≤ (s : Int) := by omega
  go_wp2_with fail
  go_quiet (fail)
  go_wp2_with fail
  · have hO : ObjL (Val g n d) g n s e0 := HV.out.obj (beq_iff_eq.1 (by assumption))
    refine (eachMember_any d bw bt off n cap s e0 g 37 _ (fun w' => Boxed bw w.heap.size w w') _ hn hcap (hA1.drewN _) hsn hO (boxed_kept hB1 ((Kept.refl _ _).drewN _)) (fun _ _ h k => boxed_kept h k) (visit37 d hd bw bt off n cap w.heap.size g w hn hcap) enters37).mono ?_
    rintro r w2 ⟨rfl, hA2, hB2⟩
    have hbx2 := hB2.2.1
    have ht2 := hA2.text
    have hp2 := hA2.pos
    clear hbx ht hp hf hc hA1 hB1
    go_wp2_with fail
    go_quiet (fail)
    go_wp2_with fail
    go_ret
    exact ⟨rfl, hA2.drewN _, hB2.1.drewN _⟩
  · obtain ⟨l, hL⟩ := HV.out.arr (beq_iff_eq.1 (by assumption))
    have hll := arrL_count (fun a b h => Val.lt h) l s e0 hL
    refine (eachElement_any d bw bt off n cap s e0 g l 39 _ (fun _ w' => Boxed bw w.heap.size w w') _ hn (hA1.drewN _) hsn hL (boxed_kept hB1 ((Kept.refl _ _).drewN _)) (fun _ _ _ h k => boxed_kept h k) (visit39 d hd bw bt off n cap w.heap.size g l w hn hcap) (by omega) enters39).mono ?_
    rintro r w2 ⟨rfl, hA2, hB2⟩
    have hbx2 := hB2.2.1
    have ht2 := hA2.text
    have hp2 := hA2.pos
    clear hbx ht hp hf hc hA1 hB1
    go_wp2_with fail
    go_quiet (fail)
    go_wp2_with fail
    go_ret
    exact ⟨rfl, hA2.drewN _, hB2.1.drewN _⟩
  · have hS := HV.out.str (beq_iff_eq.1 (by assumption))
    refine (str_any bw bt off n cap s e0 g _ hn hcap (hA1.drewN _) hS).mono ?_
    rintro r w2 ⟨⟨v, rfl⟩, hA2, hK2⟩
    have hB2 := boxed_kept hB1 (((Kept.refl _ _).drewN _).trans hK2)
    have hbx2 := hB2.2.1
    have ht2 := hA2.text
    have hp2 := hA2.pos
    clear hbx ht hp hf hc hA1 hB1
    go_wp2_with fail
    go_quiet (fail)
    go_wp2_with fail
    go_ret
    exact ⟨rfl, hA2.drewN _, hB2.1.drewN _⟩
  · have h123 : (g s == 123) = false := by assumption
    have h91 : (g s == 91) = false := by assumption
    have h34 : (g s == 34) = false := by assumption
    have hS := HV.out.scal (beq_eq_false_iff_ne.1 h123) (beq_eq_false_iff_ne.1 h91) (beq_eq_false_iff_ne.1 h34)
    refine (skipScalar_any bw bt off n cap s e0 g _ hn (hA1.drewN _) (scalTo_of hS hD)).mono ?_
    rintro r w2 ⟨rfl, hA2, hK2⟩
    have hB2 := boxed_kept hB1 (((Kept.refl _ _).drewN _).trans hK2)
    have hbx2 := hB2.2.1
    have ht2 := hA2.text
    have hp2 := hA2.pos
    clear hbx ht hp hf hc hA1 hB1
    go_wp2_with fail
    go_quiet (fail)
    go_wp2_with fail
    go_ret
    exact ⟨rfl, hA2.drewN _, hB2.1.drewN _⟩

theorem nexts_ok : ∀ d, NextOk d := by
  intro d
  induction d with
  | zero => intro bw bt off n cap p s e0 g w _ _ _ _ hV; exact hV.elim
  | succ d ih => exact next_ok d ih
end Go.Proofs.Qxb6603692a
