/-
  An argument that is a block of sixteen bytes, opened: its cells are the cells of sixteen bytes. Conditions: the argument reads as data of its type.
-/
import Derived.Test.YteboknohhcgdcaaNext
import Derived.Test.YteboknohhcgdcaaRows
import Derived.ProofKit
import Derived.OpenShut
namespace Go.Proofs.Yteboknohhcgdcaa
open Go.ChangeShapes Go.WideShapes Go.ChangeAt Go.RowKit

theorem own : ownKnob Try.prog.godebug = none := by kernel_rfl
theorem laidOut : laidOutB Try.prog = true := by kernel_rfl
theorem cells22 : Try.prog.cellsOf 22 = 16 := by kernel_rfl
theorem cells5 : Try.prog.cellsOf 5 = 1 := by kernel_rfl

theorem bytes_of : ∀ cs : List Value, (∀ i, i < cs.length → ∃ n : Int, cs[i]? = some (.int .u8 n) ∧ 0 ≤ n ∧ n ≤ 255) → ∃ l : List UInt8, cs = l.map cel
  | [], _ => ⟨[], rfl⟩
  | c :: r, h => by
    obtain ⟨l, hl⟩ := bytes_of r (fun i hi => by
      obtain ⟨n, h1, h2⟩ := h (i + 1) (by simp; omega)
      exact ⟨n, by simpa using h1, h2⟩)
    obtain ⟨n, h1, h2, h3⟩ := h 0 (by simp)
    have hc : c = .int .u8 n := by simpa using h1
    refine ⟨UInt8.ofNat n.toNat :: l, ?_⟩
    rw [List.map_cons, ← hl, hc]
    congr 1
    unfold cel
    congr 1
    rw [UInt8.toNat_ofNat']
    show n = ((n.toNat % 256 : Nat) : Int)
    omega

theorem open_block {H : Type} {enc : TypeId × Value → H} {W : World} {r : Reach} {base b : Nat} {sp : Nat → Bool} {held : Bool} {v : Value} {d : DataW H} {p : List MemPlace}
    (hv : Value.okWide Try.prog W r base 22 v) (h : DataW.Trod enc Try.prog W b sp held 22 v d p) : ∃ l : List UInt8, l.length = 16 ∧ v = .agg (cels l) := by
  simp only [Value.okWide, Try.underlying22] at hv
  obtain ⟨cs, rfl, hs, _⟩ := hv
  rw [cells22] at hs
  obtain ⟨fuel, hf⟩ := h
  obtain ⟨xs, m, _, _, _, hx, hall⟩ := DataW.trod_array Try.underlying22 hf
  obtain ⟨l, hl⟩ := bytes_of cs.toList (fun i hi => by
    have hi16 : i < 16 := by simp at hi; omega
    have h1 := hall i hi16
    rw [cells5, Nat.mul_one, List.getElem?_eq_getElem (by omega)] at h1
    obtain ⟨n, h2, _, h3⟩ := DataW.trod_int Try.underlying5 h1
    refine ⟨n, ?_, bounds_u8 h3⟩
    have h4 : (List.take 1 (List.drop i (Value.agg cs).cells.toList))[0]? = some (.int .u8 n) := by rw [h2]; rfl
    simpa [Value.cells] using h4)
  refine ⟨l, ?_, ?_⟩
  · have := congrArg List.length hl
    simp at this
    omega
  · unfold cels
    rw [← hl]

end Go.Proofs.Yteboknohhcgdcaa
