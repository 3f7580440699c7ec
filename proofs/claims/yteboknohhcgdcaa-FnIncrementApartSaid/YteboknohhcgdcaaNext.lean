/-
  Plain law, no program in sight: the next list of bytes, told by carries from the last byte on, and what the bytes of the number that is one greater are. Conditions: sixteen bytes where the number is told in two halves.
-/
import Derived.Test.YteboknohhcgdcaaPut
import Derived.Lib.Endian
namespace Go.Proofs.Yteboknohhcgdcaa

/-- One added, the lowest byte first. -/
def nxl : List UInt8 → List UInt8
  | [] => []
  | b :: r => if b = 255 then 0 :: nxl r else (b + 1) :: r

/-- One added, the highest byte first. -/
def nx (l : List UInt8) : List UInt8 := (nxl l.reverse).reverse

def cel (b : UInt8) : Value := .int .u8 b.toNat
def cels (l : List UInt8) : Array Value := (l.map cel).toArray

theorem nxl_length : ∀ l, (nxl l).length = l.length
  | [] => rfl
  | b :: r => by unfold nxl; split <;> simp [nxl_length r]
theorem nx_length (l : List UInt8) : (nx l).length = l.length := by simp [nx, nxl_length]
theorem cels_size (l : List UInt8) : (cels l).size = l.length := by simp [cels]

theorem toNat_succ {b : UInt8} (h : ¬ b = 255) : (b + 1).toNat = b.toNat + 1 := by
  have h1 : b.toNat ≠ 255 := fun e => h (UInt8.toNat_inj.1 (by simpa using e))
  have h2 := b.toNat_lt
  rw [UInt8.toNat_add]
  show (b.toNat + 1) % 256 = _
  omega

theorem nxl_inj : ∀ (l m : List UInt8), l.length = m.length → nxl l = nxl m → l = m
  | [], [], _, _ => rfl
  | [], _ :: _, h, _ => by simp at h
  | _ :: _, [], h, _ => by simp at h
  | a :: r, b :: s, h, e => by
    have hl : r.length = s.length := by simpa using h
    unfold nxl at e
    by_cases ha : a = 255 <;> by_cases hb : b = 255
    · rw [if_pos ha, if_pos hb] at e
      simp only [List.cons.injEq, true_and] at e
      rw [ha, hb, nxl_inj r s hl e]
    · rw [if_pos ha, if_neg hb] at e
      simp only [List.cons.injEq] at e
      have h1 := congrArg UInt8.toNat e.1
      rw [toNat_succ hb] at h1
      simp at h1
    · rw [if_neg ha, if_pos hb] at e
      simp only [List.cons.injEq] at e
      have h1 := congrArg UInt8.toNat e.1
      rw [toNat_succ ha] at h1
      simp at h1
    · rw [if_neg ha, if_neg hb] at e
      simp only [List.cons.injEq] at e
      have h1 := congrArg UInt8.toNat e.1
      rw [toNat_succ ha, toNat_succ hb] at h1
      have h2 : a = b := UInt8.toNat_inj.1 (by omega)
      rw [h2, e.2]

theorem nx_inj {l m : List UInt8} (h : l.length = m.length) (e : nx l = nx m) : l = m := by
  have := nxl_inj l.reverse m.reverse (by simpa using h) (List.reverse_inj.1 e)
  exact List.reverse_inj.1 this

theorem leNat_lt : ∀ l : List UInt8, Lib.leNat l < 256 ^ l.length
  | [] => by simp [Lib.leNat]
  | b :: r => by
    have := leNat_lt r
    have := b.toNat_lt
    simp only [Lib.leNat, List.length_cons, Nat.pow_succ]
    omega

theorem nxl_val : ∀ l : List UInt8, Lib.leNat (nxl l) = (Lib.leNat l + 1) % 256 ^ l.length
  | [] => by simp [nxl, Lib.leNat]
  | b :: r => by
    have hr := leNat_lt r
    have hb := b.toNat_lt
    unfold nxl
    by_cases h : b = 255
    · rw [if_pos h]
      subst h
      simp only [Lib.leNat, List.length_cons, Nat.pow_succ]
      rw [nxl_val r]
      have e : (255 : UInt8).toNat + 256 * Lib.leNat r + 1 = 256 * (Lib.leNat r + 1) := by
        show 255 + 256 * Lib.leNat r + 1 = _
        omega
      rw [e, Nat.mul_comm (256 ^ r.length) 256, Nat.mul_mod_mul_left]
      show 0 + _ = _
      omega
    · rw [if_neg h]
      simp only [Lib.leNat, List.length_cons, Nat.pow_succ]
      rw [toNat_succ h]
      have h1 : b.toNat ≠ 255 := fun e => h (UInt8.toNat_inj.1 (by simpa using e))
      rw [Nat.mod_eq_of_lt (by omega)]
      omega

theorem len16 {α : Type} (l : List α) (h : l.length = 16) : ∃ a0 a1 a2 a3 a4 a5 a6 a7 a8 a9 a10 a11 a12 a13 a14 a15, l = [a0, a1, a2, a3, a4, a5, a6, a7, a8, a9, a10, a11, a12, a13, a14, a15] := by
  match l, h with
  | [a0, a1, a2, a3, a4, a5, a6, a7, a8, a9, a10, a11, a12, a13, a14, a15], _ => exact ⟨_, _, _, _, _, _, _, _, _, _, _, _, _, _, _, _, rfl⟩

theorem halves (H L A C hi lo : Nat) (hA : A < 18446744073709551616)
    (h : C * 18446744073709551616 + A = (H * 18446744073709551616 + L + 1) % 340282366920938463463374607431768211456)
    (hlo : lo = (L + 1) % 18446744073709551616) (hhi : hi = (H + (L + 1) / 18446744073709551616) % 18446744073709551616) : hi = C ∧ lo = A := by
  omega

/-- The eight bytes that a number below 2^64 spells. -/
theorem put_be (cs : List Value) (o : Nat) (v : Nat) (n0 n1 n2 n3 n4 n5 n6 n7 : UInt8) (hv : v = Lib.beNat [n0, n1, n2, n3, n4, n5, n6, n7]) :
    putAt cs.toArray o v 8 = ((((((((cs.set o (cel n0)).set (o + 1) (cel n1)).set (o + 2) (cel n2)).set (o + 3) (cel n3)).set (o + 4) (cel n4)).set (o + 5) (cel n5)).set (o + 6) (cel n6)).set (o + 7) (cel n7)).toArray := by
  simp only [Lib.beNat, Lib.beFrom] at hv
  have z0 := n0.toNat_lt; have z1 := n1.toNat_lt; have z2 := n2.toNat_lt; have z3 := n3.toNat_lt
  have z4 := n4.toNat_lt; have z5 := n5.toNat_lt; have z6 := n6.toNat_lt; have z7 := n7.toNat_lt
  have e0 : (v : Int) / 2 ^ (56 - 8 * 0) % 256 = n0.toNat := by show (v : Int) / 72057594037927936 % 256 = _; omega
  have e1 : (v : Int) / 2 ^ (56 - 8 * 1) % 256 = n1.toNat := by show (v : Int) / 281474976710656 % 256 = _; omega
  have e2 : (v : Int) / 2 ^ (56 - 8 * 2) % 256 = n2.toNat := by show (v : Int) / 1099511627776 % 256 = _; omega
  have e3 : (v : Int) / 2 ^ (56 - 8 * 3) % 256 = n3.toNat := by show (v : Int) / 4294967296 % 256 = _; omega
  have e4 : (v : Int) / 2 ^ (56 - 8 * 4) % 256 = n4.toNat := by show (v : Int) / 16777216 % 256 = _; omega
  have e5 : (v : Int) / 2 ^ (56 - 8 * 5) % 256 = n5.toNat := by show (v : Int) / 65536 % 256 = _; omega
  have e6 : (v : Int) / 2 ^ (56 - 8 * 6) % 256 = n6.toNat := by show (v : Int) / 256 % 256 = _; omega
  have e7 : (v : Int) / 2 ^ (56 - 8 * 7) % 256 = n7.toNat := by show (v : Int) / 1 % 256 = _; omega
  simp only [putAt, e0, e1, e2, e3, e4, e5, e6, e7, List.setIfInBounds_toArray, Nat.add_zero]
  rfl

theorem be8_lt (n0 n1 n2 n3 n4 n5 n6 n7 : UInt8) : Lib.beNat [n0, n1, n2, n3, n4, n5, n6, n7] < 18446744073709551616 := by
  have z0 := n0.toNat_lt; have z1 := n1.toNat_lt; have z2 := n2.toNat_lt; have z3 := n3.toNat_lt
  have z4 := n4.toNat_lt; have z5 := n5.toNat_lt; have z6 := n6.toNat_lt; have z7 := n7.toNat_lt
  simp only [Lib.beNat, Lib.beFrom]
  omega

theorem le16 (n0 n1 n2 n3 n4 n5 n6 n7 n8 n9 n10 n11 n12 n13 n14 n15 : UInt8) :
    Lib.leNat [n15, n14, n13, n12, n11, n10, n9, n8, n7, n6, n5, n4, n3, n2, n1, n0] = Lib.beNat [n0, n1, n2, n3, n4, n5, n6, n7] * 18446744073709551616 + Lib.beNat [n8, n9, n10, n11, n12, n13, n14, n15] := by
  simp only [Lib.leNat, Lib.beNat, Lib.beFrom]
  omega

/-- The halves of the next number, laid into the row, are the cells of the next list. -/
theorem put_nx (b0 b1 b2 b3 b4 b5 b6 b7 b8 b9 b10 b11 b12 b13 b14 b15 : UInt8) (hi lo : Nat)
    (hlo : lo = (Lib.beNat [b8, b9, b10, b11, b12, b13, b14, b15] + 1) % 18446744073709551616)
    (hhi : hi = (Lib.beNat [b0, b1, b2, b3, b4, b5, b6, b7] + (Lib.beNat [b8, b9, b10, b11, b12, b13, b14, b15] + 1) / 18446744073709551616) % 18446744073709551616) :
    putAt (putAt (cels [b0, b1, b2, b3, b4, b5, b6, b7, b8, b9, b10, b11, b12, b13, b14, b15]) 0 hi 8) 8 lo 8 = cels (nx [b0, b1, b2, b3, b4, b5, b6, b7, b8, b9, b10, b11, b12, b13, b14, b15]) := by
  have hv := nxl_val [b15, b14, b13, b12, b11, b10, b9, b8, b7, b6, b5, b4, b3, b2, b1, b0]
  have hlen := nxl_length [b15, b14, b13, b12, b11, b10, b9, b8, b7, b6, b5, b4, b3, b2, b1, b0]
  obtain ⟨n15, n14, n13, n12, n11, n10, n9, n8, n7, n6, n5, n4, n3, n2, n1, n0, hn⟩ := len16 _ hlen
  have hnx : nx [b0, b1, b2, b3, b4, b5, b6, b7, b8, b9, b10, b11, b12, b13, b14, b15] = [n0, n1, n2, n3, n4, n5, n6, n7, n8, n9, n10, n11, n12, n13, n14, n15] := by
    unfold nx
    rw [show [b0, b1, b2, b3, b4, b5, b6, b7, b8, b9, b10, b11, b12, b13, b14, b15].reverse = [b15, b14, b13, b12, b11, b10, b9, b8, b7, b6, b5, b4, b3, b2, b1, b0] from rfl, hn]
    rfl
  rw [hn, le16, le16] at hv
  simp only [List.length_cons, List.length_nil, Nat.reduceAdd, Nat.reducePow] at hv
  obtain ⟨e1, e2⟩ := halves _ _ _ _ hi lo (be8_lt n8 n9 n10 n11 n12 n13 n14 n15) hv hlo hhi
  have hc : cels [b0, b1, b2, b3, b4, b5, b6, b7, b8, b9, b10, b11, b12, b13, b14, b15] = [cel b0, cel b1, cel b2, cel b3, cel b4, cel b5, cel b6, cel b7, cel b8, cel b9, cel b10, cel b11, cel b12, cel b13, cel b14, cel b15].toArray := rfl
  rw [hnx, hc, put_be _ 0 hi n0 n1 n2 n3 n4 n5 n6 n7 e1, put_be _ 8 lo n8 n9 n10 n11 n12 n13 n14 n15 e2]
  rfl

end Go.Proofs.Yteboknohhcgdcaa
