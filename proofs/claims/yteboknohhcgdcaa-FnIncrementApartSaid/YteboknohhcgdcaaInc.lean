/-
  One is added to a block in memory, as to a number whose first byte is the highest (functions increment, ZZIncrement, impl.Increment). Conditions: the block has sixteen cells that hold bytes.
-/
import Derived.Test.YteboknohhcgdcaaBe
import Derived.Test.YteboknohhcgdcaaPut
import Derived.Test.YteboknohhcgdcaaNext
namespace Go.Proofs.Yteboknohhcgdcaa
open Go.RowKit

theorem add_name : (Try.f10.name == "runtime.NumGoroutine") = false := by kernel_rfl
theorem add_body : Try.f10.body.isNone = true := by kernel_rfl
theorem add_next : Extern.findNext Try.f10 = none := by kernel_rfl
theorem add_find : Extern.find Try.f10 = some add64Entry := by kernel_rfl

theorem add_run (x y c : Int) (hx : 0 ≤ x) (hy : 0 ≤ y) (hc0 : 0 ≤ c) (hc : c ≤ 1) (w : World) :
    (callFunc 10 #[.int .u64 x, .int .u64 y, .int .u64 c]).run Try.prog w =
      .ok (.value (.tuple #[.int .u64 ((x + y + c) % 18446744073709551616), .int .u64 ((x + y + c) / 18446744073709551616)])) w := by
  rw [run_callFunc_extern Try.func10 add_name add_body add_next add_find, run_add64 x y c hx hy hc0 hc w]
  rfl

theorem add_lo (L : Nat) (hL : L < 18446744073709551616) : ∃ S C : Nat, S = (L + 1) % 18446744073709551616 ∧ C = (L + 1) / 18446744073709551616 ∧ C ≤ 1 ∧
    ∀ w, (callFunc 10 #[.int .u64 L, .int .u64 1, .int .u64 0]).run Try.prog w = .ok (.value (.tuple #[.int .u64 S, .int .u64 C])) w := by
  refine ⟨_, _, rfl, rfl, by omega, fun w => ?_⟩
  rw [add_run L 1 0 (by omega) (by omega) (by omega) (by omega) w]
  have e1 : ((L : Int) + 1 + 0) % 18446744073709551616 = (((L + 1) % 18446744073709551616 : Nat) : Int) := by omega
  have e2 : ((L : Int) + 1 + 0) / 18446744073709551616 = (((L + 1) / 18446744073709551616 : Nat) : Int) := by omega
  rw [e1, e2]

theorem add_hi (H C : Nat) (hC : C ≤ 1) : ∃ S D : Nat, S = (H + C) % 18446744073709551616 ∧
    ∀ w, (callFunc 10 #[.int .u64 H, .int .u64 0, .int .u64 C]).run Try.prog w = .ok (.value (.tuple #[.int .u64 S, .int .u64 D])) w := by
  refine ⟨_, (H + C) / 18446744073709551616, rfl, fun w => ?_⟩
  rw [add_run H 0 C (by omega) (by omega) (by omega) (by omega) w]
  have e1 : ((H : Int) + 0 + C) % 18446744073709551616 = (((H + C) % 18446744073709551616 : Nat) : Int) := by omega
  have e2 : ((H : Int) + 0 + C) / 18446744073709551616 = (((H + C) / 18446744073709551616 : Nat) : Int) := by omega
  rw [e1, e2]

theorem setRow_drewN (w : World) (g q : Nat) (cs : Array Value) : (w.drewN q).setRow g cs = (w.setRow g cs).drewN q := rfl

set_option maxHeartbeats 2000000 in
set_option maxRecDepth 100000 in
theorem inc_any (g : Nat) (t : TypeId) (b0 b1 b2 b3 b4 b5 b6 b7 b8 b9 b10 b11 b12 b13 b14 b15 : UInt8) (w : World)
    (hg : w.heap[g]? = some (.cells (cels [b0, b1, b2, b3, b4, b5, b6, b7, b8, b9, b10, b11, b12, b13, b14, b15]) t (0, 0))) :
    Calls Try.prog 8 #[.pointer (some ⟨g, 0, none⟩)] w fun e w' => e = .returned (.tuple #[]) ∧ ∃ q, w' = (w.setRow g (cels (nx [b0, b1, b2, b3, b4, b5, b6, b7, b8, b9, b10, b11, b12, b13, b14, b15]))).drewN q := by
  have B1 := Lib.hid (be_any g 0 8 16 b0 b1 b2 b3 b4 b5 b6 b7 w (by omega) (cell_of_row w g _ _ _ _ hg) (cell_of_row w g _ _ _ _ hg) (cell_of_row w g _ _ _ _ hg) (cell_of_row w g _ _ _ _ hg) (cell_of_row w g _ _ _ _ hg) (cell_of_row w g _ _ _ _ hg) (cell_of_row w g _ _ _ _ hg) (cell_of_row w g _ _ _ _ hg))
  have B2 := Lib.hid (fun q => be_any g 8 8 8 b8 b9 b10 b11 b12 b13 b14 b15 (w.drewN q) (by omega) (cell_of_row w g _ _ _ _ hg) (cell_of_row w g _ _ _ _ hg) (cell_of_row w g _ _ _ _ hg) (cell_of_row w g _ _ _ _ hg) (cell_of_row w g _ _ _ _ hg) (cell_of_row w g _ _ _ _ hg) (cell_of_row w g _ _ _ _ hg) (cell_of_row w g _ _ _ _ hg))
  obtain ⟨S, C, hS, hC, hC1, hadd1⟩ := add_lo _ (be8_lt b8 b9 b10 b11 b12 b13 b14 b15)
  obtain ⟨T, D, hT, hadd2⟩ := add_hi (Lib.beNat [b0, b1, b2, b3, b4, b5, b6, b7]) C hC1
  have hput := Lib.hid (put_nx b0 b1 b2 b3 b4 b5 b6 b7 b8 b9 b10 b11 b12 b13 b14 b15 T S hS (by rw [hT, hC]))
  have P1 := Lib.hid (fun q => put_any g 0 16 T _ t (w.drewN q) hg (by simp [cels]))
  have P2 := Lib.hid (fun q => put_any g 8 8 S _ t ((w.setRow g (putAt (cels [b0, b1, b2, b3, b4, b5, b6, b7, b8, b9, b10, b11, b12, b13, b14, b15]) 0 T 8)).drewN q) (setRow_heap w g _ _ t (0, 0) hg) (by rw [putAt_size]; simp [cels]))
  clear hS hC hC1 hT hg
  generalize Lib.beNat [b0, b1, b2, b3, b4, b5, b6, b7] = H at B1 hadd2
  generalize Lib.beNat [b8, b9, b10, b11, b12, b13, b14, b15] = L at B2 hadd1
  go_enter Try.func8, Try.ntmps8
  go_wp2_with fail
  refine B1.out.mono ?_
  rintro e w' ⟨rfl, q, rfl⟩
  go_wp2_with fail
  refine (B2.out q).mono ?_
  rintro e w' ⟨rfl, q2, rfl⟩
  go_wp2_with fail
  refine (P1.out _).mono ?_
  rintro e w' ⟨rfl, rfl⟩
  rw [setRow_drewN]
  go_wp2_with fail
  refine (P2.out _).mono ?_
  rintro e w' ⟨rfl, rfl⟩
  rw [setRow_drewN, setRow_setRow, hput.out]
  go_wp2_with fail
  go_end0
  exact ⟨rfl, _, rfl⟩

end Go.Proofs.Yteboknohhcgdcaa
