/-
  The walk of the law FnIncrementIs: the package's next block is the reference's, whatever the block. Conditions: none but that the block is sixteen bytes.
-/
import Derived.Test.YteboknohhcgdcaaSpec
import Derived.Deep.RegionWith
import Derived.Stop.BytesEq
namespace Go.Proofs.Yteboknohhcgdcaa
open Go.RowKit

theorem size22 (w : World) : (sizeOf 5).run Try.prog w = .ok 1 w := by
  have h : (Try.prog.info? 5).map (·.size) = some 1 := by kernel_rfl
  cases hq : Try.prog.info? 5 with
  | none => simp [hq] at h
  | some i =>
    simp [hq] at h
    simp [sizeOf, typeInfo, hq, h]

theorem eql_bytes (l m : List UInt8) (hl : l.length = 16) (hm : m.length = 16) (w : World) :
    (binOp .eql 22 (.agg (cels l)) (.agg (cels m))).run Try.prog w = .ok (.bool (l == m)) w :=
  run_eql_bytes w 22 5 16 Try.underlying22 Try.underlying5 size22 l m hl hm

/-- The sixteen cells of a row of bytes, one by one. -/
theorem cells16 (w : World) (g : Nat) (t : TypeId) (b0 b1 b2 b3 b4 b5 b6 b7 b8 b9 b10 b11 b12 b13 b14 b15 : UInt8)
    (h : w.heap[g]? = some (.cells (cels [b0, b1, b2, b3, b4, b5, b6, b7, b8, b9, b10, b11, b12, b13, b14, b15]) t (0, 0))) :
    w.cell? ⟨g, 0, none⟩ = some (.int .u8 b0.toNat) ∧ w.cell? ⟨g, 1, none⟩ = some (.int .u8 b1.toNat) ∧ w.cell? ⟨g, 2, none⟩ = some (.int .u8 b2.toNat) ∧ w.cell? ⟨g, 3, none⟩ = some (.int .u8 b3.toNat) ∧
    w.cell? ⟨g, 4, none⟩ = some (.int .u8 b4.toNat) ∧ w.cell? ⟨g, 5, none⟩ = some (.int .u8 b5.toNat) ∧ w.cell? ⟨g, 6, none⟩ = some (.int .u8 b6.toNat) ∧ w.cell? ⟨g, 7, none⟩ = some (.int .u8 b7.toNat) ∧
    w.cell? ⟨g, 8, none⟩ = some (.int .u8 b8.toNat) ∧ w.cell? ⟨g, 9, none⟩ = some (.int .u8 b9.toNat) ∧ w.cell? ⟨g, 10, none⟩ = some (.int .u8 b10.toNat) ∧ w.cell? ⟨g, 11, none⟩ = some (.int .u8 b11.toNat) ∧
    w.cell? ⟨g, 12, none⟩ = some (.int .u8 b12.toNat) ∧ w.cell? ⟨g, 13, none⟩ = some (.int .u8 b13.toNat) ∧ w.cell? ⟨g, 14, none⟩ = some (.int .u8 b14.toNat) ∧ w.cell? ⟨g, 15, none⟩ = some (.int .u8 b15.toNat) :=
  ⟨cell_of_row w g _ _ _ _ h, cell_of_row w g _ _ _ _ h, cell_of_row w g _ _ _ _ h, cell_of_row w g _ _ _ _ h, cell_of_row w g _ _ _ _ h, cell_of_row w g _ _ _ _ h, cell_of_row w g _ _ _ _ h, cell_of_row w g _ _ _ _ h,
   cell_of_row w g _ _ _ _ h, cell_of_row w g _ _ _ _ h, cell_of_row w g _ _ _ _ h, cell_of_row w g _ _ _ _ h, cell_of_row w g _ _ _ _ h, cell_of_row w g _ _ _ _ h, cell_of_row w g _ _ _ _ h, cell_of_row w g _ _ _ _ h⟩

/-- What a law keeps of its own block while its callees lay theirs. -/
theorem after1 {w w3 : World} {A : Array Value} (h : Below ((w.alloc (.cells A 22)).drew).heap.size ((w.alloc (.cells A 22)).drew) w3) :
    w.heap.size < w3.heap.size ∧ w3.heap[w.heap.size]? = some (.cells A 22 (0, 0)) ∧ Below w.heap.size w w3 := by
  refine ⟨?_, ?_, h.os, h.tape, h.output, ?_, fun k hk => ?_⟩
  · have := h.size
    simp at this
    omega
  · rw [h.block _ (by simp)]
    exact heap_alloc_new w _
  · have := h.size
    simp at this
    omega
  · rw [h.block k (by simp; omega)]
    exact _root_.Go.heap_alloc_old w _ hk
theorem after2 {w w3 w4 : World} {A : Array Value} (h3 : w.heap.size < w3.heap.size ∧ w3.heap[w.heap.size]? = some (.cells A 22 (0, 0)) ∧ Below w.heap.size w w3) (h : Below w3.heap.size w3 w4) :
    w.heap.size < w4.heap.size ∧ w4.heap[w.heap.size]? = some (.cells A 22 (0, 0)) ∧ Below w.heap.size w w4 := by
  refine ⟨Nat.lt_of_lt_of_le h3.1 h.size, ?_, h3.2.2.trans (h.mono (Nat.le_of_lt h3.1))⟩
  rw [h.block _ h3.1, h3.2.1]

set_option maxHeartbeats 4000000 in
set_option maxRecDepth 100000 in
theorem is_any (b0 b1 b2 b3 b4 b5 b6 b7 b8 b9 b10 b11 b12 b13 b14 b15 : UInt8) (w : World) :
    Calls Try.prog 4 #[.agg #[.int .u8 b0.toNat, .int .u8 b1.toNat, .int .u8 b2.toNat, .int .u8 b3.toNat, .int .u8 b4.toNat, .int .u8 b5.toNat, .int .u8 b6.toNat, .int .u8 b7.toNat, .int .u8 b8.toNat, .int .u8 b9.toNat, .int .u8 b10.toNat, .int .u8 b11.toNat, .int .u8 b12.toNat, .int .u8 b13.toNat, .int .u8 b14.toNat, .int .u8 b15.toNat]] w
      fun e w' => e = .returned (.bool true) ∧ Below w.heap.size w w' := by
  have he := fun wx => eql_bytes (nx [b0, b1, b2, b3, b4, b5, b6, b7, b8, b9, b10, b11, b12, b13, b14, b15]) (nx [b0, b1, b2, b3, b4, b5, b6, b7, b8, b9, b10, b11, b12, b13, b14, b15]) (by rw [nx_length]; rfl) (by rw [nx_length]; rfl) wx
  rw [beq_self_eq_true] at he
  go_enter Try.func4, Try.ntmps4
  go_wp2
  go_region_with (first
    | (go_at_call 5; refine (up_any [b0, b1, b2, b3, b4, b5, b6, b7, b8, b9, b10, b11, b12, b13, b14, b15] rfl _).mono ?_; rintro e w3 ⟨rfl, hb⟩; have h3 := Lib.hid (after1 hb); clear hb; obtain ⟨c0, c1, c2, c3, c4, c5, c6, c7, c8, c9, c10, c11, c12, c13, c14, c15⟩ := cells16 _ _ _ b0 b1 b2 b3 b4 b5 b6 b7 b8 b9 b10 b11 b12 b13 b14 b15 h3.out.2.1)
    | (go_at_call 6; refine (next_any [b0, b1, b2, b3, b4, b5, b6, b7, b8, b9, b10, b11, b12, b13, b14, b15] rfl _).mono ?_; rintro e w4 ⟨rfl, hb⟩; have h4 := Lib.hid (after2 h3.out hb); clear hb))
  all_goals
    go_wp2
    go_ret
    exact ⟨rfl, h4.out.2.2⟩

end Go.Proofs.Yteboknohhcgdcaa
