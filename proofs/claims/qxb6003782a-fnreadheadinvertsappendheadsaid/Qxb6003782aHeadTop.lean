/-
  The walk of FnReadHeadInvertsAppendHead.
-/
import Derived.Test.Qxb6003782aHeadEnc
import Derived.Test.Qxb6003782aHeadDec
namespace Go.Proofs.Qxb6003782a
open Go.RowKit
set_option linter.unusedVariables false

theorem bytesEqual_bel (ao ao' : Option Addr) (c c' : Nat) (bs : List UInt8) (w : World) (hb : bs.length ≤ 1048576) (h1 : Bytes w ao bs) (h2 : Bytes w ao' bs) :
    Calls Try.prog 19 #[.slice ao bs.length c, .slice ao' bs.length c'] w fun e w' => e = .returned (.bool true) ∧ Below w.heap.size w w' :=
  (bytesEqual_same ao ao' c c' bs w hb h1 h2).mono fun e w' ⟨h, q, hq⟩ => ⟨h, hq ▸ below_drewN (Below.refl _ _) q⟩

theorem zzAppendHead_len (ao : Option Addr) (bs : List UInt8) (c p b : Nat) (w : World) (hc : c < 18446744073709551616) (hp : p < 18446744073709551616) (hb : bs.length ≤ 1048576) (hB : Bytes w ao bs) (h0 : ao = none → bs.length = 0)
    (hbl : b = (Lib.uvarint c).length + (Lib.uvarint p).length) :
    Calls Try.prog 18 #[.slice ao bs.length bs.length, .int .u64 c, .int .u64 p] w fun e w' => ∃ g cap, e = .returned (.slice (some ⟨g, 0, none⟩) (bs.length + b) cap) ∧
      bs.length + b ≤ cap ∧ w.heap.size ≤ g ∧ Bytes w' (some ⟨g, 0, none⟩) (bs ++ (Lib.uvarint c ++ Lib.uvarint p)) ∧ Below w.heap.size w w' :=
  hbl ▸ zzAppendHead_any ao bs c p w hc hp hb hB h0

theorem Bytes.front {w : World} {g o : Nat} {a b : List UInt8} (h : Bytes w (some ⟨g, o, none⟩) (a ++ b)) : Bytes w (some ⟨g, o, none⟩) a := fun hp => by
  obtain ⟨g', o', e, hg, hc⟩ := h (by simp; omega)
  refine ⟨g', o', e, hg, fun j hj => ?_⟩
  rw [hc j (by simp; omega)]
  simp only [List.getD_eq_getElem?_getD]
  rw [List.getElem?_append_left hj]

theorem head_at (a u v t : List UInt8) (i : Nat) (hi : i < u.length + v.length) : (a ++ (u ++ v)).getD (a.length + i) 0 = (u ++ (v ++ t)).getD i 0 := by
  simp only [List.getD_eq_getElem?_getD]
  have e : u ++ (v ++ t) = (u ++ v) ++ t := by simp
  rw [List.getElem?_append_right (by omega), Nat.add_sub_cancel_left, e, List.getElem?_append_left (l₁ := u ++ v) (by simp; omega)]
theorem tail_at (u v t : List UInt8) (i b : Nat) (hb : b = u.length + v.length) : t.getD i 0 = (u ++ (v ++ t)).getD (b + i) 0 := by
  simp only [List.getD_eq_getElem?_getD]
  rw [← List.append_assoc, List.getElem?_append_right (by simp; omega)]
  congr 2
  simp
  omega

set_option maxRecDepth 100000 in
set_option maxHeartbeats 2000000 in
theorem head_top (ao0 ao1 : Option Addr) (cap0 cap1 : Nat) (bs0 bs1 : List UInt8) (c p : Nat) (w : World) (m0 : bs0.length ≤ maxLen) (m1 : bs1.length ≤ maxLen) (hB0 : Bytes w ao0 bs0) (hB1 : Bytes w ao1 bs1)
    (hc : c < 18446744073709551616) (hp : p < 18446744073709551616) :
    Calls Try.prog 6 #[.slice ao0 bs0.length cap0, .slice ao1 bs1.length cap1, .int .u64 c, .int .u64 p] w fun e w' => e = .returned (.bool true) ∧ Below w.heap.size w w' := by
  obtain ⟨i0, hi, hz0, hz1, hz2⟩ := info_parts Try.info5
  obtain ⟨b, hbl⟩ : ∃ b, b = (Lib.uvarint c).length + (Lib.uvarint p).length := ⟨_, rfl⟩
  have hb2 : 2 ≤ b := by have := Lib.uvarint_pos c; have := Lib.uvarint_pos p; omega
  have hb20 : b ≤ 20 := by have := Lib.uvarint_length64 hc; have := Lib.uvarint_length64 hp; omega
  have HB : Hid (b = (Lib.uvarint c).length + (Lib.uvarint p).length) := hbl
  clear hbl
  go_enter Try.func6, Try.ntmps6
  go_wp2_with fail
  refine (zz16_any ao0 ao1 _ _ _ _ _ _ _ m0 m1).mono ?_
  rintro e w' ⟨r, rfl, rfl, hsum⟩
  cases r
  · go_wp2
    go_ret
    exact ⟨rfl, Below.refl _ _⟩
  have hs := hsum rfl
  clear hsum m0 m1
  go_wp2_with fail
  refine (copyBytes_any ao0 cap0 bs0 _ (by omega) hB0).mono ?_
  rintro e w1 ⟨aoP, rfl, hP1, hbel1, hPn⟩
  go_wp2_with fail
  refine (copyBytes_any ao1 cap1 bs1 _ (by omega) (hB1.later (Nat.le_refl _) hbel1)).mono ?_
  rintro e w2 ⟨aoT, rfl, hT2, hbel2, hTn⟩
  have hP2 := hP1.later (Nat.le_refl _) hbel2
  clear hP1 hB0 hB1
  go_wp2_with fail
  refine (copyBytes_any aoP bs0.length bs0 _ (by omega) hP2).mono ?_
  rintro e w3 ⟨aoK, rfl, hK3, hbel3, hKn⟩
  have hP3 := hP2.later (Nat.le_refl _) hbel3
  have hT3 := hT2.later (Nat.le_refl _) hbel3
  have hw3 : Below w.heap.size w w3 := hbel1.trans ((hbel2.mono hbel1.size).trans (hbel3.mono (Nat.le_trans hbel1.size hbel2.size)))
  clear hP2 hT2 hbel1 hbel2 hbel3 w1 w2
  go_wp2_with fail
  refine (zzAppendHead_len aoP bs0 c p b _ hc hp (by omega) hP3 hPn HB.out).mono ?_
  rintro e w4 ⟨g, cap, rfl, hcap, hgg, hE4, hbel4⟩
  have hT4 := hT3.later (Nat.le_refl _) hbel4
  have hK4 := hK3.later (Nat.le_refl _) hbel4
  have hw4 : Below w.heap.size w w4 := hw3.trans (hbel4.mono hw3.size)
  clear hP3 hT3 hK3 hbel4 hgg hPn hTn hKn hw3 w3
  go_wp2_with fail
  refine (bytesEqual_bel _ aoK cap bs0.length bs0 w4 (by omega) hE4.front hK4).mono ?_
  rintro e w5 ⟨rfl, hbel5⟩
  have hT5 := hT4.later (Nat.le_refl _) hbel5
  have hE5 := hE4.later (Nat.le_refl _) hbel5
  have hw5 : Below w.heap.size w w5 := hw4.trans (hbel5.mono hw4.size)
  clear hT4 hK4 hE4 hbel5 hw4 w4
  obtain ⟨L, hLd⟩ : ∃ L, L = Lib.uvarint c ++ (Lib.uvarint p ++ bs1) := ⟨_, rfl⟩
  have HL : Hid (L = Lib.uvarint c ++ (Lib.uvarint p ++ bs1)) := hLd
  clear hLd
  go_wp2_with (at_make; refine wpList_make_row _ rfl _ _ 29 rfl 5 i0 (.int .u8 0) Try.underlying29 hi hz0 hz1 rfl .i64 .i64 _ _ (b + bs1.length) rfl rfl (by omega) (by omega) (by rw [hz2]; omega) (by unfold maxLen; omega) ?_; intro w6 hr6 hb6)
  go_loopw [13] (fun i wr => ∃ k : Nat, k ≤ b ∧ i = .int .i64 k ∧ wr.rowIs w5.heap.size 5 (b + bs1.length) (fun j => .int .u8 (copyTo L k j)) ∧ Below w5.heap.size w5 wr) (fun i _ => b - (intOf i).toNat)
  case atStart => exact ⟨0, Nat.zero_le _, rfl, hr6.congr (fun j _ => by simp [copyTo]), hb6⟩
  case round =>
    clear hr6 hb6 w6
    obtain ⟨k, hk, rfl, hr, hb⟩ := hrel
    by_cases hlt : k < b
    · have hlt' : (k : Int) < (b : Int) := by omega
      have hlt2 : (k : Int) < (b : Int) + (bs1.length : Int) := by omega
      have hlt3 : (bs0.length : Int) + (k : Int) < (bs0.length : Int) + (b : Int) := by omega
      have hc1 := (hE5.later (Nat.le_refl _) hb).at (j := bs0.length + k) (by have := HB.out; simp; omega)
      rw [Nat.zero_add, head_at bs0 _ _ bs1 k (by have := HB.out; omega), ← HL.out] at hc1
      obtain ⟨y, hy⟩ : ∃ y, y = ((L.getD k 0).toNat : Int) := ⟨_, rfl⟩
      rw [← hy] at hc1
      have HY : Hid (y = ((L.getD k 0).toNat : Int)) := hy
      clear hy
      have hce := hr.cell (i := k) (by omega)
      have hfz : wr.frozen? ⟨w5.heap.size, k, none⟩ = false := hr.frozen _
      go_wp2
      go_roundw
      case rel => exact ⟨k + 1, by omega, by go_num, by rw [HY.out]; exact row_copy hr, hb.setCell (Nat.le_refl _) _⟩
      case measure => simp [intOf]; omega
    · replace hr := hr.congr (g := fun j => .int .u8 (copyTo L (b + 0) j)) (fun j _ => by rw [show k = b + 0 by omega])
      go_wp2
      go_loopw [14] (fun i wr => ∃ k : Nat, k ≤ bs1.length ∧ i = .int .i64 k ∧ wr.rowIs w5.heap.size 5 (b + bs1.length) (fun j => .int .u8 (copyTo L (b + k) j)) ∧ Below w5.heap.size w5 wr) (fun i _ => bs1.length - (intOf i).toNat)
      case atStart => exact ⟨0, Nat.zero_le _, rfl, hr, hb⟩
      case round =>
        clear hr hb
        obtain ⟨k, hk, rfl, hr, hb⟩ := hrel
        by_cases hlt : k < bs1.length
        · have hlt' : (k : Int) < (bs1.length : Int) := by omega
          have hlt2 : (b : Int) + (k : Int) < (b : Int) + (bs1.length : Int) := by omega
          obtain ⟨gt, ot, et, hgt, hct⟩ := (hT5.later (Nat.le_refl _) hb) (by omega)
          subst et
          have hc1 := hct k hlt
          rw [tail_at _ _ bs1 k b HB.out, ← HL.out] at hc1
          obtain ⟨y, hy⟩ : ∃ y, y = ((L.getD (b + k) 0).toNat : Int) := ⟨_, rfl⟩
          rw [← hy] at hc1
          have HY : Hid (y = ((L.getD (b + k) 0).toNat : Int)) := hy
          clear hy hct
          have hce := hr.cell (i := b + k) (by omega)
          have hfz : wr.frozen? ⟨w5.heap.size, b + k, none⟩ = false := hr.frozen _
          go_wp2
          go_roundw
          case rel => exact ⟨k + 1, by omega, by go_num, by rw [HY.out]; exact row_copy hr, hb.setCell (Nat.le_refl _) _⟩
          case measure => simp [intOf]; omega
        · have hN : b + bs1.length = (Lib.uvarint c).length + ((Lib.uvarint p).length + bs1.length) := by have := HB.out; omega
          have hBf : Bytes wr (some ⟨w5.heap.size, 0, none⟩) (Lib.uvarint c ++ (Lib.uvarint p ++ bs1)) := Bytes.of_row hr (by simp; omega) (fun j hj => by
            show Value.int .u8 (copyTo L (b + k) j) = _
            rw [HL.out]; unfold copyTo; rw [if_pos (by simp at hj; omega)])
          have hw6 : Below w.heap.size w wr := hw5.trans (hb.mono hw5.size)
          obtain ⟨k1, hk1⟩ : ∃ k1, (Lib.uvarint c).length = k1 := ⟨_, rfl⟩
          obtain ⟨k2, hk2⟩ : ∃ k2, (Lib.uvarint p).length = k2 := ⟨_, rfl⟩
          have hkk : b = k1 + k2 := by have := HB.out; omega
          rw [hk1, hk2] at hN
          have Hkk : Hid (b = k1 + k2) := hkk
          have hle1 : (k1 : Int) + (k2 : Int) ≤ (b : Int) := by omega
          have hle2 : (b : Int) ≤ (k1 : Int) + (k2 : Int) := by omega
          by_cases hlt2 : p < c
          · have G := zzReadHead_yes w5.heap.size (b + bs1.length) k1 k2 c p bs1 wr hc hp hk1 hk2 hN (by omega) hBf hlt2
            have hpc : (p : Int) < (c : Int) := by omega
            clear hBf hr hb HB HL hE5 hT5 hk1 hk2 hN hkk
            go_wp2_with (go_at_call 20; refine G.mono ?_; rintro e w7 ⟨rfl, hb7⟩)
            go_ret
            exact ⟨by first | rfl | simp, hw6.trans (hb7.mono hw6.size)⟩
          · have G := zzReadHead_no w5.heap.size (b + bs1.length) k1 k2 c p bs1 wr hc hp hk1 hk2 hN (by omega) hBf (by omega)
            have hpc : (c : Int) ≤ (p : Int) := by omega
            clear hBf hr hb HB HL hE5 hT5 hk1 hk2 hN hkk
            go_wp2_with (go_at_call 20; refine G.mono ?_; rintro e w7 ⟨rfl, hb7⟩)
            go_ret
            exact ⟨by first | rfl | simp, hw6.trans (hb7.mono hw6.size)⟩
end Go.Proofs.Qxb6003782a
