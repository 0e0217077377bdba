import Derived.Test.Qxb6603692aValue
namespace Go.Proofs.Qxb6603692a
open Go.RowKit

theorem info3 : (Try.prog.info? 3).map (fun i => (i.zero, i.size, i.bytes)) = some (some (.int .i64 0), 1, 8) := by kernel_rfl
theorem infoByte : (Try.prog.info? 5).map (fun i => (i.zero, i.size, i.bytes)) = some (some (.int .u8 0), 1, 1) := by kernel_rfl

theorem made_get (v : Value) (n p : Nat) (hv : Value.cells v = #[v]) (hp : p < n) : (madeCells v.cells n)[p]? = some v := by
  rw [hv]
  simp [madeCells, hp, Nat.mod_one]

/-- 'make([]int, n)' -/
theorem make29 (n : Nat) (h : n ≤ 1048576) : ∃ C : Array Value, (∀ p, p < n → C[p]? = some (.int .i64 0)) ∧ ∀ w : World, (Instr.makeSlice 29 (.int .i64 (n : Int)) (.int .i64 (n : Int))).run Try.prog w = .ok (.slice (some ⟨w.heap.size, 0, none⟩) n n) (w.alloc (.cells C 3)) := by
  obtain ⟨i, hi, hz0, hz1, hz2⟩ := info_parts info3
  refine ⟨madeCells (Value.cells (.int .i64 0)) n, fun p hp => made_get _ n p rfl hp, fun w => ?_⟩
  have k := run_make (P := Try.prog) w 29 3 i _ Try.underlying29 hi hz0 .i64 .i64 (n : Int) (n : Int) (by omega) (by omega) (by rw [hz2]; omega) (by omega)
  simpa only [Int.toNat_natCast, hz1, Nat.mul_one] using k

/-- 'make([]byte, n)' -/
theorem makeBytes (n : Nat) (h : n ≤ 1048576) : ∃ C : Array Value, (∀ p, p < n → C[p]? = some (.int .u8 0)) ∧ ∀ w : World, (Instr.makeSlice 26 (.int .i64 (n : Int)) (.int .i64 (n : Int))).run Try.prog w = .ok (.slice (some ⟨w.heap.size, 0, none⟩) n n) (w.alloc (.cells C 5)) := by
  obtain ⟨i, hi, hz0, hz1, hz2⟩ := info_parts infoByte
  refine ⟨madeCells (Value.cells (.int .u8 0)) n, fun p hp => made_get _ n p rfl hp, fun w => ?_⟩
  have k := run_make (P := Try.prog) w 26 5 i _ Try.underlying26 hi hz0 .i64 .i64 (n : Int) (n : Int) (by omega) (by omega) (by rw [hz2]; omega) (by omega)
  simpa only [Int.toNat_natCast, hz1, Nat.mul_one] using k

theorem tabAt_new (w : World) (C : Array Value) (n : Nat) (hC : ∀ p, p < n → C[p]? = some (.int .i64 0)) : TabAt (w.alloc (.cells C 3)) w.heap.size n (fun _ => 0) := by
  intro p hp
  have hb : (w.alloc (.cells C 3)).heap[w.heap.size]? = some (.cells C 3 (0, 0)) := heap_alloc_new w _
  exact ⟨by simp only [World.cell?, hb]; exact hC p hp, by simp only [World.frozen?, hb]; simp⟩

theorem tabAt_alloc {w : World} {be n : Nat} {E : Nat → Int} (h : TabAt w be n E) (o : Obj) (hbe : be < w.heap.size) : TabAt (w.alloc o) be n E := by
  have hB : Below w.heap.size w (w.alloc o) := (Below.refl _ _).alloc (Nat.le_refl _) _
  exact fun p hp => ⟨(hB.cell (p := ⟨be, p, none⟩) hbe).trans (h p hp).1, (hB.frozen (p := ⟨be, p, none⟩) hbe).trans (h p hp).2⟩

/-- The first k cells hold -1. -/
def filled (k : Nat) : Nat → Int := fun p => if p < k then -1 else 0
theorem filled_succ (k : Nat) : upd (filled k) k (-1) = filled (k + 1) := by
  funext p
  unfold upd filled
  by_cases e : p = k
  · subst e; simp
  · by_cases h : p < k
    · simp [e, h, Nat.lt_succ_of_lt h]
    · simp [e, h, show ¬ p < k + 1 from by omega]
theorem tabAt_filled {w : World} {be n : Nat} (h : TabAt w be n (filled n)) : TabAt w be n (fun _ => -1) := fun p hp => by
  have := h p hp
  simpa [filled, hp] using this

/-- What the parser says: no, or the two tables, where the value begins. -/
def ParseRes (g : Nat → Int) (n : Nat) (w : World) (e : Ending) (w' : World) : Prop :=
  Below w.heap.size w w' ∧ (e = .returned (.tuple #[.slice none 0 0, .slice none 0 0, .int .i64 0, .bool false]) ∨
    ∃ (top en : Nat) (E P : Nat → Int), e = .returned (.tuple #[.slice (some ⟨w.heap.size, 0, none⟩) n n, .slice (some ⟨w.heap.size + 1, 0, none⟩) n n, .int .i64 (top : Int), .bool true]) ∧
      TabAt w' w.heap.size n E ∧ TabAt w' (w.heap.size + 1) n P ∧ Sk g n 0 top ∧ Sk g n en n ∧ VPost g n 10001 top en (-2) (fun _ => -1) (fun _ => -1) E P)

set_option maxRecDepth 100000 in
set_option maxHeartbeats 1600000 in
theorem zzParse_any (bt off n cap : Nat) (g : Nat → Int) (w : World) (hn : n ≤ 1048576) (ht : TextAt w bt off n g) (hbt : bt < w.heap.size) :
    Calls Try.prog 16 #[.slice (some ⟨bt, off, none⟩) n cap] w (ParseRes g n w) := by
  obtain ⟨C, hC, hmk⟩ := make29 n hn
  obtain ⟨top, htop⟩ := Sk.ex g n 0 (by omega)
  have htn := htop.top
  have hT0 : TabAt ((w.alloc (.cells C 3)).alloc (.cells C 3)) w.heap.size n (filled 0) := by
    have := tabAt_alloc (tabAt_new w C n hC) (.cells C 3) (by simp)
    exact fun p hp => by simpa [filled] using this p hp
  have hT1 : TabAt ((w.alloc (.cells C 3)).alloc (.cells C 3)) (w.heap.size + 1) n (filled 0) := by
    have := tabAt_new (w.alloc (.cells C 3)) C n hC
    exact fun p hp => by simpa [filled] using this p hp
  have hB0 : Below w.heap.size w ((w.alloc (.cells C 3)).alloc (.cells C 3)) := ((Below.refl _ _).alloc (Nat.le_refl _) _).alloc (by simp) _
  go_enter Try.func16, Try.ntmps16
  go_wp2_with fail
  clear hmk
  go_loopg [8] n (fun c x wr => ∃ k : Nat, c = n - k ∧ k ≤ n ∧ x = .int .i64 (k : Int) ∧ TabAt wr w.heap.size n (filled k) ∧ TabAt wr (w.heap.size + 1) n (filled k) ∧ Below w.heap.size w wr)
  case atStart => exact ⟨0, rfl, Nat.zero_le _, rfl, hT0, hT1, hB0⟩
  case round =>
    obtain ⟨k, hgk, hk, rfl, hE, hP, hB⟩ := hrel
    have GK : Aside (gk = n - k) := hgk
    clear hgk hT0 hT1 hB0
    by_cases hkn : k < n
    · have hce := (hE k hkn).1
      have hfe := (hE k hkn).2
      have hcp := (hP k hkn).1
      have hfp := (hP k hkn).2
      have F1 : TabAt ((wr.setCell ⟨w.heap.size, k, none⟩ (.int .i64 (-1))).setCell ⟨w.heap.size + 1, k, none⟩ (.int .i64 (-1))) w.heap.size n (filled (k + 1)) := by
        rw [← filled_succ]; exact tabAt_set_other (tabAt_set hE k (-1)) _ (by omega)
      have F2 : TabAt ((wr.setCell ⟨w.heap.size, k, none⟩ (.int .i64 (-1))).setCell ⟨w.heap.size + 1, k, none⟩ (.int .i64 (-1))) (w.heap.size + 1) n (filled (k + 1)) := by
        rw [← filled_succ]; exact tabAt_set (tabAt_set_other hP _ (by omega)) k (-1)
      have F3 : Below w.heap.size w ((wr.setCell ⟨w.heap.size, k, none⟩ (.int .i64 (-1))).setCell ⟨w.heap.size + 1, k, none⟩ (.int .i64 (-1))) := (hB.setCell (p := ⟨w.heap.size, k, none⟩) (Nat.le_refl _) _).setCell (p := ⟨w.heap.size + 1, k, none⟩) (Nat.le_succ _) _
      clear hE hP
      go_wp2_with fail
      go_roundg (n - (k + 1))
      case measure => rw [GK.out]; omega
      case rel => exact ⟨k + 1, rfl, by omega, by go_num, F1, F2, F3⟩
    · have hke : k = n := by omega
      subst hke
      have hE2 := tabAt_filled hE
      have hP2 := tabAt_filled hP
      have ht2 := textAt_below ht hB hbt
      clear hE hP
      go_wp2_with fail
      refine (zzWS_any bt off k cap 0 top g _ hn ht2 htop).mono ?_
      rintro e w1 ⟨rfl, rfl⟩
      go_wp2_with fail
      refine (values_ok 10001 (by omega) bt off k cap w.heap.size (w.heap.size + 1) top 0 g (fun _ => -1) (fun _ => -1) (-2) _ hn ht2 hE2 hP2 hbt (by omega) (fun _ _ => rfl) htn (by omega)).mono ?_
      rintro e w2 ⟨E', P', hE', hP', hB', hres⟩
      have ht3 := textAt_below ht2 hB' hbt
      have hBB := hB.trans hB'
      clear hE2 hP2 ht2 hB' hB
      rcases hres with rfl | ⟨en, rfl, V⟩
      · go_wp2_with fail
        exact bodyPost_ret (by simp [results, Try.results16, go_sem]) rfl ⟨hBB, .inl rfl⟩
      · have hel := V.val.lt
        obtain ⟨q, hq⟩ := Sk.ex g k en hel.2
        have hqle := hq.le
        have hqtop := hq.top
        go_wp2_with fail
        refine (zzWS_any bt off k cap en q g _ hn ht3 hq).mono ?_
        rintro e w3 ⟨rfl, rfl⟩
        by_cases hqk : q = k
        · have kq : ((q : Int) != (k : Int)) = false := by rw [bne_eq_false_iff_eq]; omega
          have H : Hid (ParseRes g k w (.returned (.tuple #[.slice (some ⟨w.heap.size, 0, none⟩) k k, .slice (some ⟨w.heap.size + 1, 0, none⟩) k k, .int .i64 (top : Int), .bool true])) w3) :=
            ⟨hBB, .inr ⟨top, en, E', P', rfl, hE', hP', htop, by rw [← hqk]; rw [← hqk] at hq; exact hq, V⟩⟩
          clear hqk V
          go_wp2_with fail
          exact bodyPost_ret (by simp [results, Try.results16, go_sem]) rfl H.out
        · have kq : ((q : Int) != (k : Int)) = true := by rw [bne_iff_ne]; omega
          clear hqk V
          go_wp2_with fail
          exact bodyPost_ret (by simp [results, Try.results16, go_sem]) rfl ⟨hBB, .inl rfl⟩
end Go.Proofs.Qxb6603692a
