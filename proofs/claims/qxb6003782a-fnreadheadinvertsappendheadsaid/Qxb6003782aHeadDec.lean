/-
  Uvarint at what AppendUvarint wrote; readHead; ZZReadHead.
-/
import Derived.Test.Qxb6003782aHeadWalks
import Derived.Deep.RegionWith
namespace Go.Proofs.Qxb6003782a
open Go.RowKit
set_option linter.unusedVariables false

theorem uvarint_reads (g o n c x : Nat) (r : List UInt8) (w : World) (hx : x < 18446744073709551616) (hn : n = (Lib.uvarint x ++ r).length) (hB : Bytes w (some ⟨g, o, none⟩) (Lib.uvarint x ++ r)) :
    Calls Try.prog 29 #[.slice (some ⟨g, o, none⟩) n c] w fun e w' => e = .returned (.tuple #[.int .u64 x, .int .i64 ((Lib.uvarint x).length : Int)]) ∧ w = w' := by
  have h := Try.binary_Uvarint g o n c (Lib.uvarint x ++ r) w hn.symm (fun j hj => by
    rw [hB.at hj, List.getD_eq_getElem?_getD, List.getElem?_eq_getElem hj]; rfl)
  rw [uv_dec x r hx] at h
  exact h.mono fun e w' ⟨h1, h2⟩ => ⟨h1, h2.symm⟩

theorem Bytes.rest {w : World} {g : Nat} {a b : List UInt8} (h : Bytes w (some ⟨g, 0, none⟩) (a ++ b)) : Bytes w (some ⟨g, a.length, none⟩) b := fun hp => by
  obtain ⟨g', o', e, hg, hc⟩ := h (by simp; omega)
  simp only [Option.some.injEq, Addr.mk.injEq] at e
  obtain ⟨rfl, rfl, _⟩ := e
  refine ⟨g, a.length, rfl, hg, fun j hj => ?_⟩
  have := hc (a.length + j) (by simp; omega)
  rw [Nat.zero_add] at this
  rw [this]
  simp only [List.getD_eq_getElem?_getD]
  rw [List.getElem?_append_right (by omega)]
  simp

set_option maxHeartbeats 1000000 in
theorem readHead_yes (g N k m c p : Nat) (r : List UInt8) (w : World) (hc : c < 18446744073709551616) (hp : p < 18446744073709551616) (hk : (Lib.uvarint c).length = k) (hm : (Lib.uvarint p).length = m) (hN : N = k + (m + r.length)) (hNb : N ≤ 2097152)
    (hB : Bytes w (some ⟨g, 0, none⟩) (Lib.uvarint c ++ (Lib.uvarint p ++ r))) (hlt : p < c) :
    Calls Try.prog 26 #[.slice (some ⟨g, 0, none⟩) N N] w fun e w' => e = .returned (.tuple #[.agg #[.int .u64 c, .int .u64 p], .int .i64 ((k : Int) + (m : Int))]) ∧ Below w.heap.size w w' := by
  have h1 : 1 ≤ k := hk ▸ Lib.uvarint_pos c
  have h2 : 1 ≤ m := hm ▸ Lib.uvarint_pos p
  have g1 := fun W (hW : Bytes W (some ⟨g, 0, none⟩) (Lib.uvarint c ++ (Lib.uvarint p ++ r))) => uvarint_reads g 0 N N c (Lib.uvarint p ++ r) W hc (by simp; omega) hW
  have g2 := fun W (hW : Bytes W (some ⟨g, k, none⟩) (Lib.uvarint p ++ r)) => uvarint_reads g k (N - k) (N - k) p r W hp (by simp; omega) hW
  rw [hk] at g1
  rw [hm] at g2
  have hB1 : Bytes (w.alloc (.cells #[.int .u64 0, .int .u64 0] 48)) (some ⟨g, 0, none⟩) (Lib.uvarint c ++ (Lib.uvarint p ++ r)) := hB.later (Nat.le_refl _) ((Below.refl _ _).alloc (Nat.le_refl _) _)
  have hB2 : Bytes (w.alloc (.cells #[.int .u64 0, .int .u64 0] 48)) (some ⟨g, k, none⟩) (Lib.uvarint p ++ r) := hk ▸ hB1.rest
  have hkN : (k : Int) ≤ (N : Int) := by omega
  have hNk : ¬ N = k := by omega
  have hkm : k + m ≤ N := by omega
  have hcp : (p : Int) < (c : Int) := by omega
  have G1 := g1 _ hB1
  have G2 := g2 _ hB2
  clear g1 g2 hB hB1 hB2 hN hk hm
  go_enter Try.func26, Try.ntmps26
  go_wp2_with fail
  refine G1.mono ?_
  rintro e w' ⟨rfl, rfl⟩
  go_wp2_with fail
  refine G2.mono ?_
  rintro e w' ⟨rfl, rfl⟩
  clear G1 G2
  go_wp2
  refine bodyPost_ret (v := .tuple #[.agg #[.int .u64 c, .int .u64 p], .int .i64 ((k : Int) + (m : Int))]) (by simp [results, Try.results26, go_sem]) rfl ⟨rfl, ?_⟩
  exact (Below.refl _ _).alloc (Nat.le_refl _) _

set_option maxHeartbeats 1000000 in
theorem zzReadHead_yes (g N k m c p : Nat) (r : List UInt8) (w : World) (hc : c < 18446744073709551616) (hp : p < 18446744073709551616) (hk : (Lib.uvarint c).length = k) (hm : (Lib.uvarint p).length = m) (hN : N = k + (m + r.length)) (hNb : N ≤ 2097152)
    (hB : Bytes w (some ⟨g, 0, none⟩) (Lib.uvarint c ++ (Lib.uvarint p ++ r))) (hlt : p < c) :
    Calls Try.prog 20 #[.slice (some ⟨g, 0, none⟩) N N] w fun e w' => e = .returned (.tuple #[.int .u64 c, .int .u64 p, .int .i64 ((k : Int) + (m : Int))]) ∧ Below w.heap.size w w' := by
  have G1 := readHead_yes g N k m c p r w hc hp hk hm hN hNb hB hlt
  clear hB hN hk hm
  go_enter Try.func20, Try.ntmps20
  go_wp2_with (go_at_call 26; refine G1.mono ?_; rintro e w' ⟨rfl, hb⟩)
  go_quiet (fail)
  go_wp2
  go_ret3
  exact ⟨rfl, below_drewN (hb.alloc hb.size _) _⟩

set_option maxHeartbeats 1000000 in
theorem readHead_no (g N k m c p : Nat) (r : List UInt8) (w : World) (hc : c < 18446744073709551616) (hp : p < 18446744073709551616) (hk : (Lib.uvarint c).length = k) (hm : (Lib.uvarint p).length = m) (hN : N = k + (m + r.length)) (hNb : N ≤ 2097152)
    (hB : Bytes w (some ⟨g, 0, none⟩) (Lib.uvarint c ++ (Lib.uvarint p ++ r))) (hlt : c ≤ p) :
    Calls Try.prog 26 #[.slice (some ⟨g, 0, none⟩) N N] w fun e w' => e = .returned (.tuple #[.agg #[.int .u64 0, .int .u64 0], .int .i64 (-1)]) ∧ Below w.heap.size w w' := by
  have h1 : 1 ≤ k := hk ▸ Lib.uvarint_pos c
  have h2 : 1 ≤ m := hm ▸ Lib.uvarint_pos p
  have g1 := fun W (hW : Bytes W (some ⟨g, 0, none⟩) (Lib.uvarint c ++ (Lib.uvarint p ++ r))) => uvarint_reads g 0 N N c (Lib.uvarint p ++ r) W hc (by simp; omega) hW
  have g2 := fun W (hW : Bytes W (some ⟨g, k, none⟩) (Lib.uvarint p ++ r)) => uvarint_reads g k (N - k) (N - k) p r W hp (by simp; omega) hW
  rw [hk] at g1
  rw [hm] at g2
  have hB1 : Bytes (w.alloc (.cells #[.int .u64 0, .int .u64 0] 48)) (some ⟨g, 0, none⟩) (Lib.uvarint c ++ (Lib.uvarint p ++ r)) := hB.later (Nat.le_refl _) ((Below.refl _ _).alloc (Nat.le_refl _) _)
  have hB2 : Bytes (w.alloc (.cells #[.int .u64 0, .int .u64 0] 48)) (some ⟨g, k, none⟩) (Lib.uvarint p ++ r) := hk ▸ hB1.rest
  have hkN : (k : Int) ≤ (N : Int) := by omega
  have hNk : ¬ N = k := by omega
  have hkm : k + m ≤ N := by omega
  have hcp : (c : Int) ≤ (p : Int) := by omega
  have G1 := g1 _ hB1
  have G2 := g2 _ hB2
  clear g1 g2 hB hB1 hB2 hN hk hm
  go_enter Try.func26, Try.ntmps26
  go_wp2_with fail
  refine G1.mono ?_
  rintro e w' ⟨rfl, rfl⟩
  go_wp2_with fail
  refine G2.mono ?_
  rintro e w' ⟨rfl, rfl⟩
  clear G1 G2
  go_wp2
  refine bodyPost_ret (v := .tuple #[.agg #[.int .u64 0, .int .u64 0], .int .i64 (-1)]) (by simp [results, Try.results26, go_sem]) rfl ⟨rfl, ?_⟩
  exact (Below.refl _ _).alloc (Nat.le_refl _) _

set_option maxHeartbeats 1000000 in
theorem zzReadHead_no (g N k m c p : Nat) (r : List UInt8) (w : World) (hc : c < 18446744073709551616) (hp : p < 18446744073709551616) (hk : (Lib.uvarint c).length = k) (hm : (Lib.uvarint p).length = m) (hN : N = k + (m + r.length)) (hNb : N ≤ 2097152)
    (hB : Bytes w (some ⟨g, 0, none⟩) (Lib.uvarint c ++ (Lib.uvarint p ++ r))) (hlt : c ≤ p) :
    Calls Try.prog 20 #[.slice (some ⟨g, 0, none⟩) N N] w fun e w' => e = .returned (.tuple #[.int .u64 0, .int .u64 0, .int .i64 (-1)]) ∧ Below w.heap.size w w' := by
  have G1 := readHead_no g N k m c p r w hc hp hk hm hN hNb hB hlt
  clear hB hN hk hm
  go_enter Try.func20, Try.ntmps20
  go_wp2_with (go_at_call 26; refine G1.mono ?_; rintro e w' ⟨rfl, hb⟩)
  go_quiet (fail)
  go_wp2
  go_ret3
  exact ⟨rfl, below_drewN (hb.alloc hb.size _) _⟩

end Go.Proofs.Qxb6003782a
