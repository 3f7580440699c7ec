/-
  The reference adds one to a block, byte by byte from the last one on, as long as there is a carry (function spec.Next). Conditions: the block is sixteen bytes.
-/
import Derived.Test.YteboknohhcgdcaaZz
namespace Go.Proofs.Yteboknohhcgdcaa
open Go.RowKit

theorem at_mid (k : Nat) (b : UInt8) (s : List UInt8) : (cels (List.replicate k 0 ++ b :: s).reverse)[s.length]? = some (cel b) := by
  simp [cels]

theorem set_mid (k : Nat) (b c : UInt8) (s : List UInt8) :
    (cels (List.replicate k 0 ++ b :: s).reverse).setIfInBounds s.length (cel c) = cels (List.replicate k 0 ++ c :: s).reverse := by
  simp [cels, List.setIfInBounds_toArray]

theorem nxl_step (k : Nat) (l s : List UInt8) (h : nxl l.reverse = List.replicate k 0 ++ nxl (255 :: s)) : nxl l.reverse = List.replicate (k + 1) 0 ++ nxl s := by
  rw [h]
  show List.replicate k 0 ++ (if (255 : UInt8) = 255 then 0 :: nxl s else (255 + 1) :: s) = _
  rw [if_pos rfl, List.replicate_succ']
  simp

theorem cels_step (k : Nat) (s : List UInt8) : cels (List.replicate k 0 ++ 0 :: s).reverse = cels (List.replicate (k + 1) 0 ++ s).reverse := by
  rw [List.replicate_succ']
  simp

theorem nx_stop (k : Nat) (l s : List UInt8) (b : UInt8) (hb : ¬ b = 255) (h : nxl l.reverse = List.replicate k 0 ++ nxl (b :: s)) : (List.replicate k 0 ++ (b + 1) :: s).reverse = nx l := by
  unfold nx
  rw [h]
  show _ = (List.replicate k 0 ++ (if b = 255 then 0 :: nxl s else (b + 1) :: s)).reverse
  rw [if_neg hb]

/-- What holds at the head of a round: k bytes have turned to zero, the bytes of s are left. -/
def Mid (l : List UInt8) (w : World) (Z : Array Value) (k : Nat) (s : List UInt8) (wr : World) : Prop :=
  k + s.length = 16 ∧ nxl l.reverse = List.replicate k 0 ++ nxl s ∧ wr.heap[w.heap.size]? = some (.cells (cels (List.replicate k 0 ++ s).reverse) 25 (0, 0)) ∧
    wr.heap[w.heap.size + 1]? = some (.cells Z 25 (0, 0)) ∧ Below w.heap.size w wr

def Fin (l : List UInt8) (w : World) (Z : Array Value) (wr : World) : Prop :=
  wr.heap[w.heap.size]? = some (.cells (cels (nx l)) 25 (0, 0)) ∧ wr.heap[w.heap.size + 1]? = some (.cells Z 25 (0, 0)) ∧ Below w.heap.size w wr

theorem mid_cell {l : List UInt8} {w : World} {Z : Array Value} {k : Nat} {b : UInt8} {s : List UInt8} {wr : World} (h : Mid l w Z k (b :: s) wr) :
    wr.cell? ⟨w.heap.size, s.length, none⟩ = some (.int .u8 b.toNat) := by
  rw [cell_of_row wr _ _ _ _ _ h.2.2.1, at_mid]
  rfl

theorem mid_free {l : List UInt8} {w : World} {Z : Array Value} {k : Nat} {s : List UInt8} {wr : World} (j : Nat) (h : Mid l w Z k s wr) : wr.frozen? ⟨w.heap.size, j, none⟩ = false :=
  frozen_of_row wr _ _ _ _ h.2.2.1

theorem mid_next {l : List UInt8} {w : World} {Z : Array Value} {k : Nat} {s : List UInt8} {wr : World} (h : Mid l w Z k (255 :: s) wr) :
    Mid l w Z (k + 1) s (wr.setCell ⟨w.heap.size, s.length, none⟩ (.int .u8 0)) := by
  obtain ⟨h1, h2, h3, h4, h5⟩ := h
  rw [setCell_eq_setRow wr _ _ _ _ _ _ h3]
  refine ⟨by simp at h1; omega, nxl_step k l s h2, ?_, ?_, below_row h5 (Nat.le_refl _) _⟩
  · rw [setRow_heap wr _ _ _ _ _ h3, show (Value.int .u8 0) = cel 0 from rfl, set_mid, cels_step]
  · rw [setRow_other wr _ _ _ (by omega), h4]

theorem mid_stop {l : List UInt8} {w : World} {Z : Array Value} {k : Nat} {b : UInt8} {s : List UInt8} {wr : World} (hb : ¬ b = 255) (h : Mid l w Z k (b :: s) wr) :
    Fin l w Z (wr.setCell ⟨w.heap.size, s.length, none⟩ (.int .u8 ((b.toNat : Int) + 1))) := by
  obtain ⟨_, h2, h3, h4, h5⟩ := h
  rw [setCell_eq_setRow wr _ _ _ _ _ _ h3]
  refine ⟨?_, ?_, below_row h5 (Nat.le_refl _) _⟩
  · have e : (Value.int .u8 ((b.toNat : Int) + 1)) = cel (b + 1) := by
      unfold cel
      rw [toNat_succ hb]
      rfl
    rw [setRow_heap wr _ _ _ _ _ h3, e, set_mid, nx_stop k l s b hb h2]
  · rw [setRow_other wr _ _ _ (by omega), h4]

theorem mid_end {l : List UInt8} {w : World} {Z : Array Value} {k : Nat} {wr : World} (h : Mid l w Z k [] wr) : Fin l w Z wr := by
  obtain ⟨_, h2, h3, h4, h5⟩ := h
  refine ⟨?_, h4, h5⟩
  rw [h3]
  unfold nx
  rw [h2]
  rfl

/-- The new block of the result, as it is laid. -/
def zer : Array Value := #[Value.int IntKind.u8 0, Value.int IntKind.u8 0, Value.int IntKind.u8 0, Value.int IntKind.u8 0, Value.int IntKind.u8 0, Value.int IntKind.u8 0, Value.int IntKind.u8 0, Value.int IntKind.u8 0, Value.int IntKind.u8 0, Value.int IntKind.u8 0, Value.int IntKind.u8 0, Value.int IntKind.u8 0, Value.int IntKind.u8 0, Value.int IntKind.u8 0, Value.int IntKind.u8 0, Value.int IntKind.u8 0]

theorem mid_start (l : List UInt8) (hl : l.length = 16) (w : World) : Mid l w zer 0 l.reverse ((w.alloc (.cells (cels l) 25)).alloc (.cells zer 25)) := by
  refine ⟨by simpa using hl, rfl, ?_, heap_alloc2_new w _ _, ?_⟩
  · rw [heap_alloc2_old]
    simp
  · exact ((Below.refl _ _).alloc (Nat.le_refl _) _).trans ((Below.refl _ _).alloc (by simp) _)

set_option maxHeartbeats 2000000 in
set_option maxRecDepth 100000 in
theorem next_any (l : List UInt8) (hl : l.length = 16) (w : World) :
    Calls Try.prog 6 #[.agg (cels l)] w fun e w' => e = .returned (.agg (cels (nx l))) ∧ Below w.heap.size w w' := by
  have hsz : (cels l).size = 16 := by rw [cels_size, hl]
  have hiH := Lib.hid (show (Try.prog.info? 25).map (·.size) = some (cels (nx l)).size by rw [cels_size, nx_length, hl]; kernel_rfl)
  have holdH := Lib.hid (show zer.size = (cels (nx l)).size by rw [cels_size, nx_length, hl]; rfl)
  have H0 := Lib.hid (mid_start l hl w)
  have hlH := Lib.hid (show (15 : Int) = (l.reverse.length : Int) - 1 by rw [List.length_reverse, hl]; rfl)
  clear hl
  go_enter Try.func6, Try.ntmps6
  go_wp2
  clear hsz
  go_loopw [3] (fun i wr => ∃ (k : Nat) (s : List UInt8), i = .int .i64 ((s.length : Int) - 1) ∧ Hid (Mid l w zer k s wr)) (fun i _ => (intOf i + 1).toNat)
  case atStart => exact ⟨0, l.reverse, by rw [← hlH.out], H0⟩
  case round =>
    obtain ⟨k, s, rfl, hm⟩ := hrel
    cases s with
    | nil =>
      have F := Lib.hid (mid_end hm.out)
      clear hm H0 hlH
      go_wp2_with (first | (refine wpList_load_row rfl 25 (.tmp 1) rfl w.heap.size rfl 25 _ (0, 0) _ F.out.1 Try.underlying25 rfl hiH.out ?_) | (refine wpList_store_row rfl 25 (.tmp 2) (.tmp 17) rfl (w.heap.size + 1) (cels (nx l)) rfl rfl 25 _ F.out.2.1 hiH.out holdH.out (cels_one _) ?_))
      refine bodyPost_ret (v := .agg (cels (nx l))) (results_cell_row Try.results6 _ _ (w.heap.size + 1) 25 _ (0, 0) _ rfl (setRow_heap _ _ _ _ _ _ F.out.2.1) Try.underlying25 rfl hiH.out) rfl ⟨rfl, ?_⟩
      exact below_row F.out.2.2 (by omega) _
    | cons b s =>
      have e : (((b :: s).length : Nat) : Int) - 1 = ((s.length : Nat) : Int) := by simp
      rw [e]
      have hc := mid_cell hm.out
      have hf := mid_free s.length hm.out
      have hs : s.length < 16 := by have := hm.out.1; simp at this; omega
      clear e H0 hlH
      by_cases hb : b = 255
      · subst hb
        have F := Lib.hid (mid_next hm.out)
        clear hm
        go_wp2
        exact ⟨⟨k + 1, s, rfl, F⟩, by simp [intOf]⟩
      · have F := Lib.hid (mid_stop hb hm.out)
        have hlt : b.toNat < 255 := by
          have h1 : b.toNat ≠ 255 := fun e => hb (UInt8.toNat_inj.1 (by simpa using e))
          have h2 := b.toNat_lt
          omega
        clear hm hb
        generalize b.toNat = n at F hc hlt
        go_wp2_with (first | (refine wpList_load_row rfl 25 (.tmp 1) rfl w.heap.size rfl 25 _ (0, 0) _ F.out.1 Try.underlying25 rfl hiH.out ?_) | (refine wpList_store_row rfl 25 (.tmp 2) (.tmp 17) rfl (w.heap.size + 1) (cels (nx l)) rfl rfl 25 _ F.out.2.1 hiH.out holdH.out (cels_one _) ?_))
        refine bodyPost_ret (v := .agg (cels (nx l))) (results_cell_row Try.results6 _ _ (w.heap.size + 1) 25 _ (0, 0) _ rfl (setRow_heap _ _ _ _ _ _ F.out.2.1) Try.underlying25 rfl hiH.out) rfl ⟨rfl, ?_⟩
        exact below_row F.out.2.2 (by omega) _

end Go.Proofs.Yteboknohhcgdcaa
