/-
  The walk of the law FnIncrementApart where the two blocks differ: their next blocks differ. Conditions: each block is sixteen bytes.
-/
import Derived.Test.YteboknohhcgdcaaApart
namespace Go.Proofs.Yteboknohhcgdcaa
open Go.RowKit

theorem after2b {w w3 w4 : World} (h1 : w.heap.size + 1 < w3.heap.size) (hb : Below w.heap.size w w3) (h : Below w3.heap.size w3 w4) : Below w.heap.size w w4 :=
  hb.trans (h.mono (by omega))

set_option maxHeartbeats 8000000 in
set_option maxRecDepth 100000 in
theorem apart_other (b0 b1 b2 b3 b4 b5 b6 b7 b8 b9 b10 b11 b12 b13 b14 b15 c0 c1 c2 c3 c4 c5 c6 c7 c8 c9 c10 c11 c12 c13 c14 c15 : UInt8) (hne : ¬ [b0, b1, b2, b3, b4, b5, b6, b7, b8, b9, b10, b11, b12, b13, b14, b15] = [c0, c1, c2, c3, c4, c5, c6, c7, c8, c9, c10, c11, c12, c13, c14, c15]) (w : World) :
    Calls Try.prog 3 #[.agg #[.int .u8 b0.toNat, .int .u8 b1.toNat, .int .u8 b2.toNat, .int .u8 b3.toNat, .int .u8 b4.toNat, .int .u8 b5.toNat, .int .u8 b6.toNat, .int .u8 b7.toNat, .int .u8 b8.toNat, .int .u8 b9.toNat, .int .u8 b10.toNat, .int .u8 b11.toNat, .int .u8 b12.toNat, .int .u8 b13.toNat, .int .u8 b14.toNat, .int .u8 b15.toNat], .agg #[.int .u8 c0.toNat, .int .u8 c1.toNat, .int .u8 c2.toNat, .int .u8 c3.toNat, .int .u8 c4.toNat, .int .u8 c5.toNat, .int .u8 c6.toNat, .int .u8 c7.toNat, .int .u8 c8.toNat, .int .u8 c9.toNat, .int .u8 c10.toNat, .int .u8 c11.toNat, .int .u8 c12.toNat, .int .u8 c13.toNat, .int .u8 c14.toNat, .int .u8 c15.toNat]] w
      fun e w' => e = .returned (.bool true) ∧ Below w.heap.size w w' := by
  have he : ∀ wx, (binOp .eql 22 (.agg #[.int .u8 b0.toNat, .int .u8 b1.toNat, .int .u8 b2.toNat, .int .u8 b3.toNat, .int .u8 b4.toNat, .int .u8 b5.toNat, .int .u8 b6.toNat, .int .u8 b7.toNat, .int .u8 b8.toNat, .int .u8 b9.toNat, .int .u8 b10.toNat, .int .u8 b11.toNat, .int .u8 b12.toNat, .int .u8 b13.toNat, .int .u8 b14.toNat, .int .u8 b15.toNat]) (.agg #[.int .u8 c0.toNat, .int .u8 c1.toNat, .int .u8 c2.toNat, .int .u8 c3.toNat, .int .u8 c4.toNat, .int .u8 c5.toNat, .int .u8 c6.toNat, .int .u8 c7.toNat, .int .u8 c8.toNat, .int .u8 c9.toNat, .int .u8 c10.toNat, .int .u8 c11.toNat, .int .u8 c12.toNat, .int .u8 c13.toNat, .int .u8 c14.toNat, .int .u8 c15.toNat])).run Try.prog wx = .ok (.bool false) wx := fun wx => by
    have h := eql_bytes [b0, b1, b2, b3, b4, b5, b6, b7, b8, b9, b10, b11, b12, b13, b14, b15] [c0, c1, c2, c3, c4, c5, c6, c7, c8, c9, c10, c11, c12, c13, c14, c15] rfl rfl wx
    rw [beq_false_of_ne hne] at h
    exact h
  have hn : ∀ wx, (binOp .neq 22 (.agg (cels (nx [b0, b1, b2, b3, b4, b5, b6, b7, b8, b9, b10, b11, b12, b13, b14, b15]))) (.agg (cels (nx [c0, c1, c2, c3, c4, c5, c6, c7, c8, c9, c10, c11, c12, c13, c14, c15])))).run Try.prog wx = .ok (.bool true) wx := fun wx => by
    rw [neq_bytes _ _ (by rw [nx_length]; rfl) (by rw [nx_length]; rfl) wx, beq_false_of_ne (fun e => hne (nx_inj rfl e))]
    rfl
  clear hne
  go_enter Try.func3, Try.ntmps3
  go_wp2
  go_region_with (first
    | (go_at_call 5; have h9 := h3; refine (up_any [c0, c1, c2, c3, c4, c5, c6, c7, c8, c9, c10, c11, c12, c13, c14, c15] rfl _).mono ?_; rintro e w4 ⟨rfl, hb⟩; have h4 := Lib.hid (after2b h3.out.1 h3.out.2.2 hb); clear hb h9)
    | (go_at_call 5; refine (up_any [b0, b1, b2, b3, b4, b5, b6, b7, b8, b9, b10, b11, b12, b13, b14, b15] rfl _).mono ?_; rintro e w3 ⟨rfl, hb⟩; have h3 := Lib.hid (after1b hb); clear hb; obtain ⟨x0, x1, x2, x3, x4, x5, x6, x7, x8, x9, x10, x11, x12, x13, x14, x15⟩ := cells16 _ _ _ c0 c1 c2 c3 c4 c5 c6 c7 c8 c9 c10 c11 c12 c13 c14 c15 h3.out.2.1))
  all_goals
    go_wp2
    go_ret
    exact ⟨rfl, h4.out⟩

end Go.Proofs.Yteboknohhcgdcaa
