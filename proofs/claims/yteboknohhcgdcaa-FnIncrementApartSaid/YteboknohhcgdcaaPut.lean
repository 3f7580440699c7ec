/-
  Eight bytes of a number, the highest first, laid into a row of cells (function bePutUint64). Conditions: the slice has eight elements and lies within one row of cells that may be written.
-/
import Derived.Test.YteboknohhcgdcaaProg
import Derived.WalkKit
import Derived.WalkSpells
import Derived.WalkLawsBesides
import Derived.Lib.Hide
namespace Go.Proofs.Yteboknohhcgdcaa
open Go.RowKit

/-- The cells behind k rounds. -/
def putAt (cs : Array Value) (o v : Nat) : Nat → Array Value
  | 0 => cs
  | k + 1 => (putAt cs o v k).setIfInBounds (o + k) (.int .u8 ((v : Int) / 2 ^ (56 - 8 * k) % 256))

theorem putAt_size (cs : Array Value) (o v : Nat) : ∀ k, (putAt cs o v k).size = cs.size
  | 0 => rfl
  | k + 1 => by simp [putAt, putAt_size cs o v k]

set_option maxHeartbeats 2000000 in
set_option maxRecDepth 100000 in
theorem put_any (g o c v : Nat) (cs : Array Value) (t : TypeId) (w : World) (hg : w.heap[g]? = some (.cells cs t (0, 0))) (ho : o + 8 ≤ cs.size) :
    Calls Try.prog 11 #[.slice (some ⟨g, o, none⟩) 8 c, .int .u64 v] w fun e w' => e = .returned (.tuple #[]) ∧ w' = w.setRow g (putAt cs o v 8) := by
  have hgH := Lib.hid hg
  have h7 : ∃ x, w.cell? ⟨g, o + 7, none⟩ = some x := by
    refine ⟨cs[o + 7]'(by omega), ?_⟩
    rw [cell_of_row w g _ cs t (0, 0) hg]; simp
  obtain ⟨x7, h7⟩ := h7
  clear hg
  go_enter Try.func11, Try.ntmps11
  go_wp2
  clear h7
  go_loopw [4] (fun i wr => ∃ k : Nat, k ≤ 8 ∧ i = .int .i64 k ∧ Hid (wr = w.setRow g (putAt cs o v k))) (fun i _ => 8 - (intOf i).toNat)
  case atStart => exact ⟨0, by omega, rfl, Lib.hid (setRow_self w g cs t (0, 0) hgH.out).symm⟩
  case round =>
    obtain ⟨k, hk, rfl, hw⟩ := hrel
    by_cases hlt : k < 8
    · have hrow := setRow_heap w g cs (putAt cs o v k) t (0, 0) hgH.out
      rw [← hw.out] at hrow
      have hc : ∃ x, wr.cell? ⟨g, o + k, none⟩ = some x := by
        refine ⟨(putAt cs o v k)[o + k]'(by rw [putAt_size]; omega), ?_⟩
        rw [cell_of_row wr g _ _ t (0, 0) hrow]; simp
      obtain ⟨x, hc⟩ := hc
      have hf : wr.frozen? ⟨g, o + k, none⟩ = false := frozen_of_row wr g _ _ t hrow
      have hrowH := Lib.hid hrow
      clear hrow
      go_wp2
      go_roundw
      case rel =>
        refine ⟨k + 1, by omega, by go_num, Lib.hid ?_⟩
        rw [setCell_eq_setRow wr g (o + k) _ t (0, 0) _ hrowH.out, hw.out, setRow_setRow]
        rfl
      case measure => simp [intOf]; omega
    · go_wp2
      go_end0
      obtain rfl : k = 8 := by omega
      exact ⟨rfl, hw.out⟩

end Go.Proofs.Yteboknohhcgdcaa
