/-
  One is added to a block that is handed by value (functions ZZIncrement, impl.Increment). Conditions: the block is sixteen bytes.
-/
import Derived.Test.YteboknohhcgdcaaInc
namespace Go.Proofs.Yteboknohhcgdcaa
open Go.RowKit

theorem inc_l (g : Nat) (t : TypeId) (l : List UInt8) (hl : l.length = 16) (w : World) (hg : w.heap[g]? = some (.cells (cels l) t (0, 0))) :
    Calls Try.prog 8 #[.pointer (some ⟨g, 0, none⟩)] w fun e w' => e = .returned (.tuple #[]) ∧ ∃ q, w' = (w.setRow g (cels (nx l))).drewN q := by
  obtain ⟨b0, b1, b2, b3, b4, b5, b6, b7, b8, b9, b10, b11, b12, b13, b14, b15, rfl⟩ := len16 l hl
  exact inc_any g t b0 b1 b2 b3 b4 b5 b6 b7 b8 b9 b10 b11 b12 b13 b14 b15 w hg

theorem cels_one (l : List UInt8) : (cels l).all (·.oneCell') = true := by
  simp [cels, cel, Value.oneCell']

/-- Two new blocks, the first of them written whole, and draws: what was there reads as it did. -/
theorem two_rows (w : World) (A Z A' : Array Value) (t : TypeId) (q : Nat) :
    ((((w.alloc (.cells A t)).alloc (.cells Z t)).setRow w.heap.size A').drewN q).heap[w.heap.size]? = some (.cells A' t (0, 0)) ∧
    ((((w.alloc (.cells A t)).alloc (.cells Z t)).setRow w.heap.size A').drewN q).heap[w.heap.size + 1]? = some (.cells Z t (0, 0)) ∧
    Below w.heap.size w ((((w.alloc (.cells A t)).alloc (.cells Z t)).setRow w.heap.size A').drewN q) := by
  refine ⟨setRow_heap _ _ _ _ t (0, 0) (heap_alloc2_old w (.cells A t) (.cells Z t)), ?_, ?_⟩
  · show (((w.alloc (.cells A t)).alloc (.cells Z t)).setRow w.heap.size A').heap[w.heap.size + 1]? = _
    rw [setRow_other _ _ _ _ (by omega)]
    exact heap_alloc2_new w (.cells A t) (.cells Z t)
  · refine ⟨rfl, rfl, rfl, ?_, fun k hk => ?_⟩
    · show w.heap.size ≤ (((w.alloc (.cells A t)).alloc (.cells Z t)).setRow w.heap.size A').heap.size
      simp
      omega
    · show (((w.alloc (.cells A t)).alloc (.cells Z t)).setRow w.heap.size A').heap[k]? = _
      rw [setRow_other _ _ _ _ (by omega), _root_.Go.heap_alloc_old _ _ (by simp; omega), _root_.Go.heap_alloc_old _ _ hk]

theorem below_row {B g : Nat} {w0 w : World} (hb : Below B w0 w) (hBg : B ≤ g) (cs : Array Value) : Below B w0 (w.setRow g cs) :=
  ⟨hb.os, hb.tape, hb.output, by rw [setRow_size]; exact hb.size, fun k hk => (setRow_other w g k cs (by omega)).trans (hb.block k hk)⟩

set_option maxHeartbeats 2000000 in
set_option maxRecDepth 100000 in
theorem zz_any (l : List UInt8) (hl : l.length = 16) (w : World) :
    Calls Try.prog 7 #[.agg (cels l)] w fun e w' => e = .returned (.agg (cels (nx l))) ∧ Below w.heap.size w w' := by
  have hsz : (cels l).size = 16 := by rw [cels_size, hl]
  have hi : (Try.prog.info? 22).map (·.size) = some (cels (nx l)).size := by rw [cels_size, nx_length, hl]; kernel_rfl
  have hold : (#[Value.int IntKind.u8 0, Value.int IntKind.u8 0, Value.int IntKind.u8 0, Value.int IntKind.u8 0, Value.int IntKind.u8 0, Value.int IntKind.u8 0, Value.int IntKind.u8 0, Value.int IntKind.u8 0, Value.int IntKind.u8 0, Value.int IntKind.u8 0, Value.int IntKind.u8 0, Value.int IntKind.u8 0, Value.int IntKind.u8 0, Value.int IntKind.u8 0, Value.int IntKind.u8 0, Value.int IntKind.u8 0] : Array Value).size = (cels (nx l)).size := by rw [cels_size, nx_length, hl]; rfl
  have hiH := Lib.hid hi
  have holdH := Lib.hid hold
  clear hi hold
  go_enter Try.func7, Try.ntmps7
  go_wp2_with fail
  refine (inc_l w.heap.size 22 l hl _ (heap_alloc2_old w _ _)).mono ?_
  rintro e w3 ⟨rfl, q, hq⟩
  obtain ⟨r1, r2, hb⟩ := two_rows w (cels l) #[Value.int IntKind.u8 0, Value.int IntKind.u8 0, Value.int IntKind.u8 0, Value.int IntKind.u8 0, Value.int IntKind.u8 0, Value.int IntKind.u8 0, Value.int IntKind.u8 0, Value.int IntKind.u8 0, Value.int IntKind.u8 0, Value.int IntKind.u8 0, Value.int IntKind.u8 0, Value.int IntKind.u8 0, Value.int IntKind.u8 0, Value.int IntKind.u8 0, Value.int IntKind.u8 0, Value.int IntKind.u8 0] (cels (nx l)) 22 q
  rw [← hq] at r1 r2 hb
  have R1 := Lib.hid r1
  have R2 := Lib.hid r2
  have HB := Lib.hid hb
  clear r1 r2 hb hq
  go_wp2_with (first | (refine wpList_load_row rfl 22 (.tmp 1) rfl w.heap.size rfl 22 _ (0, 0) _ R1.out Try.underlying22 rfl hiH.out ?_) | (refine wpList_store_row rfl 22 (.tmp 2) (.tmp 4) rfl (w.heap.size + 1) (cels (nx l)) rfl rfl 22 _ R2.out hiH.out holdH.out (cels_one _) ?_))
  refine bodyPost_ret (v := .agg (cels (nx l))) (results_cell_row Try.results7 _ _ (w.heap.size + 1) 22 _ (0, 0) _ rfl (setRow_heap _ _ _ _ _ _ R2.out) Try.underlying22 rfl hiH.out) rfl ⟨rfl, ?_⟩
  exact below_row HB.out (by omega) _

/-- Behind the blocks of its own: what was there reads as it did. -/
theorem two_below {w w3 : World} (A Z : Array Value) (t : TypeId) (h : Below (((w.alloc (.cells A t)).alloc (.cells Z t)).heap.size) ((w.alloc (.cells A t)).alloc (.cells Z t)) w3) :
    w3.heap[w.heap.size + 1]? = some (.cells Z t (0, 0)) ∧ Below w.heap.size w w3 := by
  refine ⟨?_, ?_⟩
  · rw [h.block _ (by simp)]
    exact heap_alloc2_new w (.cells A t) (.cells Z t)
  · refine ⟨h.os, h.tape, h.output, ?_, fun k hk => ?_⟩
    · have := h.size
      simp at this
      omega
    · rw [h.block k (by simp; omega), _root_.Go.heap_alloc_old _ _ (by simp; omega), _root_.Go.heap_alloc_old _ _ hk]

set_option maxHeartbeats 2000000 in
set_option maxRecDepth 100000 in
theorem up_any (l : List UInt8) (hl : l.length = 16) (w : World) :
    Calls Try.prog 5 #[.agg (cels l)] w fun e w' => e = .returned (.agg (cels (nx l))) ∧ Below w.heap.size w w' := by
  have hsz : (cels l).size = 16 := by rw [cels_size, hl]
  have hiL := Lib.hid (show (Try.prog.info? 22).map (·.size) = some (cels l).size by rw [hsz]; kernel_rfl)
  have hiH := Lib.hid (show (Try.prog.info? 22).map (·.size) = some (cels (nx l)).size by rw [cels_size, nx_length, hl]; kernel_rfl)
  have holdH := Lib.hid (show (#[Value.int IntKind.u8 0, Value.int IntKind.u8 0, Value.int IntKind.u8 0, Value.int IntKind.u8 0, Value.int IntKind.u8 0, Value.int IntKind.u8 0, Value.int IntKind.u8 0, Value.int IntKind.u8 0, Value.int IntKind.u8 0, Value.int IntKind.u8 0, Value.int IntKind.u8 0, Value.int IntKind.u8 0, Value.int IntKind.u8 0, Value.int IntKind.u8 0, Value.int IntKind.u8 0, Value.int IntKind.u8 0] : Array Value).size = (cels (nx l)).size by rw [cels_size, nx_length, hl]; rfl)
  go_enter Try.func5, Try.ntmps5
  go_wp2_with (refine wpList_load_row rfl 22 (.tmp 1) rfl w.heap.size rfl 22 _ (0, 0) _ (heap_alloc2_old w _ _) Try.underlying22 rfl hiL.out ?_)
  refine (zz_any l hl _).mono ?_
  rintro e w3 ⟨rfl, hb⟩
  obtain ⟨r2, hb⟩ := two_below _ _ _ hb
  have R2 := Lib.hid r2
  have HB := Lib.hid hb
  clear r2 hb
  go_wp2_with (refine wpList_store_row rfl 22 (.tmp 2) (.tmp 4) rfl (w.heap.size + 1) (cels (nx l)) rfl rfl 22 _ R2.out hiH.out holdH.out (cels_one _) ?_)
  refine bodyPost_ret (v := .agg (cels (nx l))) (results_cell_row Try.results5 _ _ (w.heap.size + 1) 22 _ (0, 0) _ rfl (setRow_heap _ _ _ _ _ _ R2.out) Try.underlying22 rfl hiH.out) rfl ⟨rfl, ?_⟩
  exact below_row HB.out (by omega) _

end Go.Proofs.Yteboknohhcgdcaa
