/-
  The walk of FnCopiesAreExactAndApart.
-/
import Derived.Test.Qxb6003782aCopies
import Derived.WalkSpells
namespace Go.Proofs.Qxb6003782a
open Go.RowKit

theorem rowIs_drewN {w : World} {b : Nat} {t : TypeId} {n : Nat} {f : Nat → Value} (h : w.rowIs b t n f) (q : Nat) : (w.drewN q).rowIs b t n f := h

theorem own_shape {w : World} {base : Nat} {e : TypeId} {v : Value} {n : Nat} {xs : List Value} (h : w.ownsRow base e 1 v (n + 1) xs) : ∃ g cap, v = .slice (some ⟨g, 0, none⟩) (n + 1) cap := by
  obtain ⟨h1, h2⟩ := h
  rcases h2 with ⟨_, h3⟩ | ⟨g, cap, cur, hv, _⟩
  · omega
  · exact ⟨g, cap, hv⟩

/-- A byte, every bit turned. -/
def fl (x : Int) : Int := bits BinOp.xor .u8 x 255
/-- The first k of f turned. -/
def flTo (f : Nat → Int) (k j : Nat) : Int := if j < k then fl (f j) else f j
theorem flTo_zero (f : Nat → Int) (j : Nat) : flTo f 0 j = f j := by unfold flTo; rw [if_neg (by omega)]
theorem flTo_at (f : Nat → Int) (k : Nat) : flTo f k k = f k := by unfold flTo; rw [if_neg (by omega)]
theorem flTo_succ (f : Nat → Int) (k j : Nat) : flTo f (k + 1) j = if j = k then fl (f k) else flTo f k j := by
  unfold flTo
  by_cases h : j = k
  · subst h; rw [if_pos (by omega), if_pos rfl]
  · rw [if_neg h]
    by_cases h2 : j < k
    · rw [if_pos (by omega), if_pos h2]
    · rw [if_neg (by omega), if_neg h2]

theorem row_flip {w : World} {b N : Nat} {f : Nat → Int} {k : Nat} (h : w.rowIs b 5 N (fun j => .int .u8 (flTo f k j))) :
    (w.setCell ⟨b, k, none⟩ (.int .u8 (fl (f k)))).rowIs b 5 N (fun j => .int .u8 (flTo f (k + 1) j)) :=
  (h.set k _).congr (fun j _ => by
    show (if j = k then Value.int .u8 (fl (f k)) else Value.int .u8 (flTo f k j)) = Value.int .u8 (flTo f (k + 1) j)
    rw [flTo_succ]
    split <;> rfl)

theorem olds_at (f : Nat → Int) (n : Nat) {w : World} {b N : Nat} (hn : n ≤ N) (h : w.rowIs b 5 N (fun j => .int .u8 (f j))) :
    ∀ ad, some (⟨b, 0, none⟩ : Addr) = some ad → ∀ j u, ((List.range n).map (fun j => Value.int .u8 (f j)))[j]? = some u → w.cell? (ad.add j) = some u := by
  intro ad had j u hu
  simp only [Option.some.injEq] at had
  subst had
  simp only [List.getElem?_map, Option.map_eq_some_iff] at hu
  obtain ⟨x, hx, rfl⟩ := hu
  obtain ⟨hj, hjx⟩ := List.getElem?_eq_some_iff.1 hx
  simp at hj hjx
  subst hjx
  have e : (⟨b, 0, none⟩ : Addr).add j = ⟨b, j, none⟩ := by unfold Addr.add; split <;> simp_all
  rw [e, h.cell (by omega)]

set_option maxRecDepth 100000 in
set_option maxHeartbeats 2000000 in
theorem copies_top (a0 a1 : ByteArray) (w0 : a0.size ≤ maxLen) (w1 : a1.size ≤ maxLen) (w : World) :
    Calls Try.prog 4 #[.string a0, .string a1] w fun e w' => e = .returned (.bool true) ∧ Below w.heap.size w w' := by
  have B0 : Below w.heap.size w w := Below.refl _ _
  obtain ⟨i0, hi, hz0, hz1, hz2⟩ := info_parts Try.info5
  go_enter Try.func4, Try.ntmps4
  go_wp2_with fail
  refine (zz12_any a0 a1 _ w0 w1).mono ?_
  rintro e w' ⟨r, rfl, rfl, hsum⟩
  cases r
  · go_wp2
    go_ret
    exact ⟨rfl, B0⟩
  have hs := hsum rfl
  clear hsum B0 w0 w1
  go_wp2_with (go_at_call 13; refine (zzCopies_any a0 a1 _ hs).mono ?_; rintro e w' ⟨off, rfl, hoff, hr, hb⟩)
  -- loop 1
  go_loopw [7] (fun i wr => ∃ k : Nat, k ≤ a0.size ∧ i = .int .i64 k ∧ wr.rowIs w.heap.size 5 (a0.size + a1.size) (fun j => .int .u8 (byteAt a0 a1 j)) ∧ Below w.heap.size w wr) (fun i _ => a0.size - (intOf i).toNat)
  case atStart => exact ⟨0, Nat.zero_le _, rfl, hr, hb⟩
  case round =>
    clear hr hb w'
    obtain ⟨k, hk, rfl, hr, hb⟩ := hrel
    by_cases hlt : k < a0.size
    · have hlt' : (k : Int) < (a0.size : Int) := by omega
      have hc : wr.cell? ⟨w.heap.size, k, none⟩ = some (.int .u8 (a0[k].toNat : Int)) := by rw [hr.cell (by omega), byteAt_key a0 a1 k hlt]
      go_wp2
      go_quiet (fail)
      go_wp2
      go_roundw
      case rel => exact ⟨k + 1, by omega, by go_num, rowIs_drewN hr _, below_drewN hb _⟩
      case measure => simp [intOf]; omega
    · go_wp2
      go_loopw [8] (fun i wr => ∃ k : Nat, k ≤ a1.size ∧ i = .int .i64 k ∧ wr.rowIs w.heap.size 5 (a0.size + a1.size) (fun j => .int .u8 (byteAt a0 a1 j)) ∧ Below w.heap.size w wr) (fun i _ => a1.size - (intOf i).toNat)
      case atStart => exact ⟨0, Nat.zero_le _, rfl, hr, hb⟩
      case round =>
        obtain ⟨k, hk, rfl, hr, hb⟩ := hrel
        by_cases hlt : k < a1.size
        · have hlt' : (k : Int) < (a1.size : Int) := by omega
          have hc : wr.cell? ⟨w.heap.size, off + k, none⟩ = some (.int .u8 (a1[k].toNat : Int)) := by rw [hoff (by omega), hr.cell (by omega), byteAt_value a0 a1 k hlt]
          go_wp2
          go_quiet (fail)
          go_wp2
          go_roundw
          case rel => exact ⟨k + 1, by omega, by go_num, rowIs_drewN hr _, below_drewN hb _⟩
          case measure => simp [intOf]; omega
        · go_wp2_with (at_builtin; go_must (refine wpList_append_grows _ rfl (.tmp 76) (.tmp 77) 29 rfl 5 i0 (.int .u8 0) 1 1 Try.underlying29 hi hz0 hz1 hz2 rfl (by decide) _ a0.size a0.size ((List.range a0.size).map (fun j => Value.int .u8 (byteAt a0 a1 j))) rfl (fun h => by cases h) (by simp) (olds_at _ a0.size (by omega) (hr.alloc _)) ⟨wr.heap.size, 0, none⟩ 1 1 [.int .u8 170] rfl rfl (cell_one_new _ _ _) (by intro u hu; simp at hu; subst hu; rfl) (by omega) (by unfold maxLen; omega) (by omega) ?_); intro v' w2 hown hgr; obtain ⟨g2, cap2, rfl⟩ := own_shape hown)
          replace hr : w2.rowIs w.heap.size 5 (a0.size + a1.size) (fun j => .int .u8 (byteAt a0 a1 j)) := (hr.alloc _).of_block (hgr.block _ (hr.alloc _).lt (fun e => by cases e))
          replace hb : Below w.heap.size w w2 := (hb.alloc hb.size _).grown hgr (Nat.le_trans hb.size (by simp)) (fun k e => by cases e)
          clear hown hgr
          go_loopw [10] (fun i wr => ∃ k : Nat, k ≤ a1.size ∧ i = .int .i64 k ∧ wr.rowIs w.heap.size 5 (a0.size + a1.size) (fun j => .int .u8 (byteAt a0 a1 j)) ∧ Below w.heap.size w wr) (fun i _ => a1.size - (intOf i).toNat)
          case atStart => exact ⟨0, Nat.zero_le _, rfl, hr, hb⟩
          case round =>
            clear hr hb
            obtain ⟨k, hk, rfl, hr, hb⟩ := hrel
            by_cases hlt : k < a1.size
            · have hlt' : (k : Int) < (a1.size : Int) := by omega
              have hc : wr.cell? ⟨w.heap.size, off + k, none⟩ = some (.int .u8 (a1[k].toNat : Int)) := by rw [hoff (by omega), hr.cell (by omega), byteAt_value a0 a1 k hlt]
              go_wp2
              go_quiet (fail)
              go_wp2
              go_roundw
              case rel => exact ⟨k + 1, by omega, by go_num, rowIs_drewN hr _, below_drewN hb _⟩
              case measure => simp [intOf]; omega
            · go_wp2
              go_loopw [11] (fun i wr => ∃ k : Nat, k ≤ a0.size ∧ i = .int .i64 k ∧ wr.rowIs w.heap.size 5 (a0.size + a1.size) (fun j => .int .u8 (flTo (byteAt a0 a1) (k) j)) ∧ Below w.heap.size w wr) (fun i _ => a0.size - (intOf i).toNat)
              case atStart => exact ⟨0, Nat.zero_le _, rfl, hr.congr (fun j _ => by rw [flTo_zero]), hb⟩
              case round =>
                clear hr hb
                obtain ⟨k, hk, rfl, hr, hb⟩ := hrel
                by_cases hlt : k < a0.size
                · have hlt' : (k : Int) < (a0.size : Int) := by omega
                  have hc : wr.cell? ⟨w.heap.size, k, none⟩ = some (.int .u8 (byteAt a0 a1 (k))) := by rw [hr.cell (by omega), flTo_at]
                  have hfz : wr.frozen? ⟨w.heap.size, k, none⟩ = false := hr.frozen _
                  obtain ⟨x, hx⟩ : ∃ x, x = byteAt a0 a1 (k) := ⟨_, rfl⟩
                  rw [← hx] at hc
                  have HX : Hid (x = byteAt a0 a1 (k)) := hx
                  clear hx
                  go_wp2
                  go_roundw
                  case rel => exact ⟨k + 1, by omega, by go_num, by rw [HX.out]; exact row_flip hr, hb.setCell (Nat.le_refl _) _⟩
                  case measure => simp [intOf]; omega
                · go_wp2
                  replace hr := hr.congr (g := fun j => .int .u8 (flTo (byteAt a0 a1) a0.size j)) (fun j _ => by rw [show k = a0.size by omega])
                  go_loopw [12] (fun i wr => ∃ k : Nat, k ≤ a1.size ∧ i = .int .i64 k ∧ wr.rowIs w.heap.size 5 (a0.size + a1.size) (fun j => .int .u8 (flTo (byteAt a0 a1) a0.size j)) ∧ Below w.heap.size w wr) (fun i _ => a1.size - (intOf i).toNat)
                  case atStart => exact ⟨0, Nat.zero_le _, rfl, hr, hb⟩
                  case round =>
                    clear hr hb
                    obtain ⟨k, hk, rfl, hr, hb⟩ := hrel
                    by_cases hlt : k < a1.size
                    · have hlt' : (k : Int) < (a1.size : Int) := by omega
                      have hc : wr.cell? ⟨w.heap.size, off + k, none⟩ = some (.int .u8 (a1[k].toNat : Int)) := by rw [hoff (by omega), hr.cell (by omega)]; unfold flTo; rw [if_neg (by omega), byteAt_value a0 a1 k hlt]
                      go_wp2
                      go_quiet (fail)
                      go_wp2
                      go_roundw
                      case rel => exact ⟨k + 1, by omega, by go_num, rowIs_drewN hr _, below_drewN hb _⟩
                      case measure => simp [intOf]; omega
                    · go_wp2
                      go_loopw [13] (fun i wr => ∃ k : Nat, k ≤ a1.size ∧ i = .int .i64 k ∧ wr.rowIs w.heap.size 5 (a0.size + a1.size) (fun j => .int .u8 (flTo (byteAt a0 a1) (a0.size + k) j)) ∧ Below w.heap.size w wr) (fun i _ => a1.size - (intOf i).toNat)
                      case atStart => exact ⟨0, Nat.zero_le _, rfl, hr, hb⟩
                      case round =>
                        clear hr hb
                        obtain ⟨k, hk, rfl, hr, hb⟩ := hrel
                        by_cases hlt : k < a1.size
                        · have hlt' : (k : Int) < (a1.size : Int) := by omega
                          have hc : wr.cell? ⟨w.heap.size, off + k, none⟩ = some (.int .u8 (byteAt a0 a1 (a0.size + k))) := by rw [hoff (by omega), hr.cell (by omega), flTo_at]
                          have hfz : wr.frozen? ⟨w.heap.size, off + k, none⟩ = false := hr.frozen _
                          obtain ⟨x, hx⟩ : ∃ x, x = byteAt a0 a1 (a0.size + k) := ⟨_, rfl⟩
                          rw [← hx] at hc
                          have HX : Hid (x = byteAt a0 a1 (a0.size + k)) := hx
                          clear hx
                          go_wp2
                          go_roundw
                          case rel => exact ⟨k + 1, by omega, by go_num, by rw [HX.out, hoff (by omega)]; exact row_flip hr, hb.setCell (Nat.le_refl _) _⟩
                          case measure => simp [intOf]; omega
                        · go_wp2
                          replace hr := hr.congr (g := fun j => .int .u8 (flTo (byteAt a0 a1) (a0.size + a1.size) j)) (fun j _ => by rw [show k = a1.size by omega])
                          go_loopw [14] (fun i wr => ∃ k : Nat, k ≤ a0.size ∧ i = .int .i64 k ∧ wr.rowIs w.heap.size 5 (a0.size + a1.size) (fun j => .int .u8 (flTo (byteAt a0 a1) (a0.size + a1.size) j)) ∧ Below w.heap.size w wr) (fun i _ => a0.size - (intOf i).toNat)
                          case atStart => exact ⟨0, Nat.zero_le _, rfl, hr, hb⟩
                          case round =>
                            clear hr hb
                            obtain ⟨k, hk, rfl, hr, hb⟩ := hrel
                            by_cases hlt : k < a0.size
                            · have hlt' : (k : Int) < (a0.size : Int) := by omega
                              have hc : wr.cell? ⟨w.heap.size, k, none⟩ = some (.int .u8 (bits BinOp.xor .u8 (a0[k].toNat : Int) 255)) := by rw [hr.cell (by omega)]; unfold flTo fl; rw [if_pos (by omega), byteAt_key a0 a1 k hlt]
                              go_wp2
                              go_quiet (fail)
                              go_wp2
                              go_roundw
                              case rel => exact ⟨k + 1, by omega, by go_num, rowIs_drewN hr _, below_drewN hb _⟩
                              case measure => simp [intOf]; omega
                            · go_wp2
                              go_ret
                              exact ⟨rfl, hb⟩
end Go.Proofs.Qxb6003782a
