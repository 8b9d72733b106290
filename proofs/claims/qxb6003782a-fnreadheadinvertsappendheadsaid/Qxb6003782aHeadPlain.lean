/-
  Plain laws for the head of a record: what AppendUvarint writes is what Uvarint reads; bytes in memory.
-/
import Derived.Lib.Varint
import Derived.Lib.VarintDec
import Derived.Lib.VarintMem
import Derived.WalkKit
import Derived.Deep.OwnRows
import Derived.Deep.Draws
namespace Go.Proofs.Qxb6003782a
open Go.RowKit

theorem uv_from : ∀ (k i : Nat), i + k = 9 → ∀ (x acc : Nat) (r : List UInt8), x < 2 * 128 ^ k →
    Lib.uvarintFrom i acc (Lib.uvarint x ++ r) = (acc + x * 2 ^ (7 * i), ((i + (Lib.uvarint x).length : Nat) : Int))
  | 0, i, hi, x, acc, r, hx => by
    obtain rfl : i = 9 := by omega
    have hx' : x < 2 := by simpa using hx
    rw [Lib.uvarint_small (by omega)]
    have e : (x.toUInt8).toNat = x := Lib.toUInt8_toNat (by omega)
    simp only [List.singleton_append, Lib.uvarintFrom, e]
    rw [if_neg (by omega), if_pos (by omega), if_neg (by omega)]
    simp
  | k + 1, i, hi, x, acc, r, hx => by
    by_cases h : x < 128
    · rw [Lib.uvarint_small h]
      have e : (x.toUInt8).toNat = x := Lib.toUInt8_toNat (by omega)
      simp only [List.singleton_append, Lib.uvarintFrom, e]
      rw [if_neg (by omega), if_pos h, if_neg (by omega)]
      simp
    · rw [Lib.uvarint_big (by omega)]
      have e : ((x % 128 + 128).toUInt8).toNat = x % 128 + 128 := Lib.toUInt8_toNat (by omega)
      simp only [List.cons_append, Lib.uvarintFrom, e]
      rw [if_neg (by omega), if_neg (by omega)]
      have hx2 : x / 128 < 2 * 128 ^ k := by
        apply Nat.div_lt_of_lt_mul
        rw [Nat.pow_succ] at hx
        omega
      rw [uv_from k (i + 1) (by omega) (x / 128) _ r hx2]
      have e2 : (x % 128 + 128) % 128 = x % 128 := by omega
      have e3 : 2 ^ (7 * (i + 1)) = 128 * 2 ^ (7 * i) := by rw [show 7 * (i + 1) = 7 * i + 7 by omega, Nat.pow_add]; omega
      have e4 : x % 128 * 2 ^ (7 * i) + x / 128 * (128 * 2 ^ (7 * i)) = x * 2 ^ (7 * i) := by
        rw [← Nat.mul_assoc, ← Nat.add_mul]
        congr 1
        omega
      rw [e2, e3, Nat.add_assoc, e4]
      simp only [List.length_cons]
      congr 2
      omega

theorem uv_dec (x : Nat) (r : List UInt8) (hx : x < 18446744073709551616) : Lib.uvarintDec (Lib.uvarint x ++ r) = (x, ((Lib.uvarint x).length : Int)) := by
  have h := uv_from 9 0 (by omega) x 0 r (by omega)
  rw [Lib.uvarintDec, h]
  simp

/-- The bytes bs lie at the slice's address. -/
def Bytes (w : World) (ao : Option Addr) (bs : List UInt8) : Prop :=
  0 < bs.length → ∃ g o, ao = some ⟨g, o, none⟩ ∧ g < w.heap.size ∧ ∀ j, j < bs.length → w.cell? ⟨g, o + j, none⟩ = some (.int .u8 ((bs.getD j 0).toNat : Int))

theorem Bytes.later {w w' : World} {ao : Option Addr} {bs : List UInt8} (h : Bytes w ao bs) {B : Nat} (hB : w.heap.size ≤ B) (hb : Below B w w') : Bytes w' ao bs := fun hp => by
  obtain ⟨g, o, e, hg, hc⟩ := h hp
  exact ⟨g, o, e, Nat.lt_of_lt_of_le hg hb.size, fun j hj => by rw [hb.cell (by exact Nat.lt_of_lt_of_le hg hB)]; exact hc j hj⟩

theorem Bytes.drewN {w : World} {ao : Option Addr} {bs : List UInt8} (h : Bytes w ao bs) (n : Nat) : Bytes (w.drewN n) ao bs := h

theorem Bytes.of_row {w : World} {g : Nat} {bs : List UInt8} {N : Nat} {f : Nat → Value} (hr : w.rowIs g 5 N f) (hN : bs.length ≤ N) (hf : ∀ j, j < bs.length → f j = .int .u8 ((bs.getD j 0).toNat : Int)) : Bytes w (some ⟨g, 0, none⟩) bs := fun _ =>
  ⟨g, 0, rfl, hr.lt, fun j hj => by rw [Nat.zero_add, hr.cell (by omega), hf j hj]⟩

theorem Bytes.at {w : World} {g o : Nat} {bs : List UInt8} (h : Bytes w (some ⟨g, o, none⟩) bs) {j : Nat} (hj : j < bs.length) : w.cell? ⟨g, o + j, none⟩ = some (.int .u8 ((bs.getD j 0).toNat : Int)) := by
  obtain ⟨g', o', e, _, hc⟩ := h (by omega)
  simp only [Option.some.injEq, Addr.mk.injEq] at e
  obtain ⟨rfl, rfl, _⟩ := e
  exact hc j hj
end Go.Proofs.Qxb6003782a
