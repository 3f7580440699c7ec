/-
  The walk of the law FnIncrementApart: two blocks that differ have next blocks that differ. Conditions: none but that each block is sixteen bytes.
-/
import Derived.Test.YteboknohhcgdcaaIs
import Derived.Deep.QuietTactic
import Derived.BigQuiet
namespace Go.Proofs.Yteboknohhcgdcaa
open Go.RowKit

theorem neq_bytes (l m : List UInt8) (hl : l.length = 16) (hm : m.length = 16) (w : World) :
    (binOp .neq 22 (.agg (cels l)) (.agg (cels m))).run Try.prog w = .ok (.bool (!(l == m))) w := by
  rw [run_neq_struct]
  have h := run_equalIn_bytes w 9998 22 5 16 Try.underlying22 Try.underlying5 size22 l m hl hm
  have h' : (Op.equalIn 10000 22 (.agg (cels l)) (.agg (cels m))).run Try.prog w = .ok (l == m) w := h
  rw [h']
  rfl

/-- What a law keeps of its own two blocks while its callees lay theirs. -/
theorem after1b {w w3 : World} {A B : Array Value} (h : Below (((w.alloc (.cells A 22)).alloc (.cells B 22)).drew).heap.size (((w.alloc (.cells A 22)).alloc (.cells B 22)).drew) w3) :
    w.heap.size + 1 < w3.heap.size ∧ w3.heap[w.heap.size + 1]? = some (.cells B 22 (0, 0)) ∧ Below w.heap.size w w3 := by
  have hs := h.size
  simp at hs
  refine ⟨by omega, ?_, h.os, h.tape, h.output, by omega, fun k hk => ?_⟩
  · rw [h.block _ (by simp)]
    exact heap_alloc2_new w _ _
  · rw [h.block k (by simp; omega)]
    show ((w.alloc (.cells A 22)).alloc (.cells B 22)).heap[k]? = _
    rw [_root_.Go.heap_alloc_old _ _ (by simp; omega), _root_.Go.heap_alloc_old _ _ hk]

theorem below2 (w : World) (A B : Array Value) (q : Nat) : Below w.heap.size w (((w.alloc (.cells A 22)).alloc (.cells B 22)).drewN q) :=
  ⟨rfl, rfl, rfl, by simp; omega, fun k hk => by
    show ((w.alloc (.cells A 22)).alloc (.cells B 22)).heap[k]? = _
    rw [_root_.Go.heap_alloc_old _ _ (by simp; omega), _root_.Go.heap_alloc_old _ _ hk]⟩

set_option maxHeartbeats 4000000 in
set_option maxRecDepth 100000 in
theorem apart_same (b0 b1 b2 b3 b4 b5 b6 b7 b8 b9 b10 b11 b12 b13 b14 b15 : UInt8) (w : World) :
    Calls Try.prog 3 #[.agg #[.int .u8 b0.toNat, .int .u8 b1.toNat, .int .u8 b2.toNat, .int .u8 b3.toNat, .int .u8 b4.toNat, .int .u8 b5.toNat, .int .u8 b6.toNat, .int .u8 b7.toNat, .int .u8 b8.toNat, .int .u8 b9.toNat, .int .u8 b10.toNat, .int .u8 b11.toNat, .int .u8 b12.toNat, .int .u8 b13.toNat, .int .u8 b14.toNat, .int .u8 b15.toNat], .agg #[.int .u8 b0.toNat, .int .u8 b1.toNat, .int .u8 b2.toNat, .int .u8 b3.toNat, .int .u8 b4.toNat, .int .u8 b5.toNat, .int .u8 b6.toNat, .int .u8 b7.toNat, .int .u8 b8.toNat, .int .u8 b9.toNat, .int .u8 b10.toNat, .int .u8 b11.toNat, .int .u8 b12.toNat, .int .u8 b13.toNat, .int .u8 b14.toNat, .int .u8 b15.toNat]] w
      fun e w' => e = .returned (.bool true) ∧ Below w.heap.size w w' := by
  have he : ∀ wx, (binOp .eql 22 (.agg #[.int .u8 b0.toNat, .int .u8 b1.toNat, .int .u8 b2.toNat, .int .u8 b3.toNat, .int .u8 b4.toNat, .int .u8 b5.toNat, .int .u8 b6.toNat, .int .u8 b7.toNat, .int .u8 b8.toNat, .int .u8 b9.toNat, .int .u8 b10.toNat, .int .u8 b11.toNat, .int .u8 b12.toNat, .int .u8 b13.toNat, .int .u8 b14.toNat, .int .u8 b15.toNat]) (.agg #[.int .u8 b0.toNat, .int .u8 b1.toNat, .int .u8 b2.toNat, .int .u8 b3.toNat, .int .u8 b4.toNat, .int .u8 b5.toNat, .int .u8 b6.toNat, .int .u8 b7.toNat, .int .u8 b8.toNat, .int .u8 b9.toNat, .int .u8 b10.toNat, .int .u8 b11.toNat, .int .u8 b12.toNat, .int .u8 b13.toNat, .int .u8 b14.toNat, .int .u8 b15.toNat])).run Try.prog wx = .ok (.bool true) wx := fun wx => by
    have h := eql_bytes [b0, b1, b2, b3, b4, b5, b6, b7, b8, b9, b10, b11, b12, b13, b14, b15] [b0, b1, b2, b3, b4, b5, b6, b7, b8, b9, b10, b11, b12, b13, b14, b15] rfl rfl wx
    rw [beq_self_eq_true] at h
    exact h
  go_enter Try.func3, Try.ntmps3
  go_wp2
  go_quiet (fail)
  go_wp2
  go_ret
  exact ⟨rfl, below2 w _ _ _⟩

end Go.Proofs.Yteboknohhcgdcaa
