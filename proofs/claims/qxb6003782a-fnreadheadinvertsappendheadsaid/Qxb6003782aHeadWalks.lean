/-
  Walks on the road of FnReadHeadInvertsAppendHead: zzBytes, copyBytes, bytesEqual.
-/
import Derived.Test.Qxb6003782aCopies
import Derived.Test.Qxb6003782aHeadPlain
import Derived.Test.Qxb6003782aShelf
import Derived.WalkSpells
namespace Go.Proofs.Qxb6003782a
open Go.RowKit

/-- The first k bytes of bs, then zeros. -/
def copyTo (bs : List UInt8) (k j : Nat) : Int := if j < k then ((bs.getD j 0).toNat : Int) else 0
theorem copyTo_succ (bs : List UInt8) (k j : Nat) : copyTo bs (k + 1) j = if j = k then ((bs.getD k 0).toNat : Int) else copyTo bs k j := by
  unfold copyTo
  by_cases h : j = k
  · subst h; rw [if_pos (by omega), if_pos rfl]
  · rw [if_neg h]
    by_cases h2 : j < k
    · rw [if_pos (by omega), if_pos h2]
    · rw [if_neg (by omega), if_neg h2]
theorem row_copy {w : World} {b N : Nat} {bs : List UInt8} {k : Nat} (h : w.rowIs b 5 N (fun j => .int .u8 (copyTo bs k j))) :
    (w.setCell ⟨b, k, none⟩ (.int .u8 ((bs.getD k 0).toNat : Int))).rowIs b 5 N (fun j => .int .u8 (copyTo bs (k + 1) j)) :=
  (h.set k _).congr (fun j _ => by
    show (if j = k then Value.int .u8 ((bs.getD k 0).toNat : Int) else Value.int .u8 (copyTo bs k j)) = Value.int .u8 (copyTo bs (k + 1) j)
    rw [copyTo_succ]
    split <;> rfl)

theorem zz16_any (a0 a1 : Option Addr) (l0 c0 l1 c1 : Nat) (x y : Int) (w : World) (h0 : l0 ≤ maxLen) (h1 : l1 ≤ maxLen) :
    Calls Try.prog 16 #[.slice a0 l0 c0, .slice a1 l1 c1, .int .u64 x, .int .u64 y] w fun en w' => ∃ r : Bool, en = .returned (.bool r) ∧ w = w' ∧ (r = true → l0 + l1 ≤ 1048576) := by
  unfold maxLen at h0 h1
  go_enter Try.func16, Try.ntmps16
  go_wp2
  all_goals (go_ret; exact ⟨_, rfl, rfl, fun h => by first | omega | cases h⟩)

theorem copyBytes_nil (c : Nat) (w : World) :
    Calls Try.prog 17 #[.slice none 0 c] w fun e w' => e = .returned (.slice none 0 0) ∧ w = w' := by
  have hn : ∀ w, (binOp .eql 29 (.slice none 0 c) (.slice none 0 0)).run Try.prog w = .ok (.bool true) w := fun w => run_eql_slice_nil w 29 5 none 0 c Try.underlying29
  go_enter Try.func17, Try.ntmps17
  go_wp2
  go_ret
  exact ⟨rfl, rfl⟩

set_option maxHeartbeats 1000000 in
theorem copyBytes_some (x : Addr) (c : Nat) (bs : List UInt8) (w : World) (hb : bs.length ≤ 1048576) (hB : Bytes w (some x) bs) :
    Calls Try.prog 17 #[.slice (some x) bs.length c] w fun e w' => e = .returned (.slice (some ⟨w.heap.size, 0, none⟩) bs.length bs.length) ∧ w'.rowIs w.heap.size 5 bs.length (fun j => .int .u8 ((bs.getD j 0).toNat : Int)) ∧ Below w.heap.size w w' := by
  obtain ⟨i0, hi, hz0, hz1, hz2⟩ := info_parts Try.info5
  obtain ⟨n, hn⟩ : ∃ n, n = bs.length := ⟨_, rfl⟩
  rw [← hn] at hb ⊢
  have HN : Hid (n = bs.length) := hn
  clear hn
  have he : ∀ w, (binOp .eql 29 (.slice (some x) n c) (.slice none 0 0)).run Try.prog w = .ok (.bool false) w := fun w => run_eql_slice_nil w 29 5 (some x) n c Try.underlying29
  go_enter Try.func17, Try.ntmps17
  go_wp2_with (at_make; refine wpList_make_row _ rfl _ _ 29 rfl 5 i0 (.int .u8 0) Try.underlying29 hi hz0 hz1 rfl .i64 .i64 _ _ n rfl rfl (by omega) (by omega) (by rw [hz2]; omega) (by unfold maxLen; omega) ?_; intro w1 hr1 hb1)
  go_loopw [4] (fun i wr => ∃ k : Nat, k ≤ n ∧ i = .int .i64 k ∧ wr.rowIs w.heap.size 5 n (fun j => .int .u8 (copyTo bs k j)) ∧ Below w.heap.size w wr) (fun i _ => n - (intOf i).toNat)
  case atStart => exact ⟨0, Nat.zero_le _, rfl, hr1.congr (fun j _ => by simp [copyTo]), hb1⟩
  case round =>
    clear hr1 hb1 w1
    obtain ⟨k, hk, rfl, hr, hbl⟩ := hrel
    by_cases hlt : k < n
    · have hlt' : (k : Int) < (n : Int) := by omega
      obtain ⟨gx, ox, ex, hgx, hcx⟩ := hB (by rw [← HN.out]; omega)
      simp only [Option.some.injEq] at ex
      subst ex
      have hc : wr.cell? ⟨gx, ox + k, none⟩ = some (.int .u8 ((bs.getD k 0).toNat : Int)) := by rw [hbl.cell (by exact hgx)]; exact hcx k (by rw [← HN.out]; omega)
      obtain ⟨y, hy⟩ : ∃ y, y = ((bs.getD k 0).toNat : Int) := ⟨_, rfl⟩
      rw [← hy] at hc
      have HY : Hid (y = ((bs.getD k 0).toNat : Int)) := hy
      clear hy hcx
      have hce := hr.cell (i := k) hlt
      have hfz : wr.frozen? ⟨w.heap.size, k, none⟩ = false := hr.frozen _
      go_wp2
      go_roundw
      case rel => exact ⟨k + 1, by omega, by go_num, by rw [HY.out]; exact row_copy hr, hbl.setCell (Nat.le_refl _) _⟩
      case measure => simp [intOf]; omega
    · go_wp2
      go_ret
      exact ⟨rfl, hr.congr (fun j hj => by unfold copyTo; rw [if_pos (by omega)]), hbl⟩

/-- copyBytes, whatever the slice. -/
theorem copyBytes_any (ao : Option Addr) (c : Nat) (bs : List UInt8) (w : World) (hb : bs.length ≤ 1048576) (hB : Bytes w ao bs) :
    Calls Try.prog 17 #[.slice ao bs.length c] w fun e w' => ∃ ao', e = .returned (.slice ao' bs.length bs.length) ∧ Bytes w' ao' bs ∧ Below w.heap.size w w' ∧ (ao' = none → bs.length = 0) := by
  cases ao with
  | none =>
    have h0 : bs.length = 0 := by
      by_cases h : 0 < bs.length
      · obtain ⟨_, _, e, _⟩ := hB h; cases e
      · omega
    rw [h0]
    refine (copyBytes_nil c w).mono ?_
    rintro e w' ⟨rfl, rfl⟩
    exact ⟨none, rfl, fun h => by omega, Below.refl _ _, fun _ => rfl⟩
  | some x =>
    refine (copyBytes_some x c bs w hb hB).mono ?_
    rintro e w' ⟨rfl, hr, hbl⟩
    exact ⟨_, rfl, Bytes.of_row hr (Nat.le_refl _) (fun j _ => rfl), hbl, fun h => by cases h⟩

set_option maxHeartbeats 400000 in
theorem bytesEqual_same (ao ao' : Option Addr) (c c' : Nat) (bs : List UInt8) (w : World) (hb : bs.length ≤ 1048576) (h1 : Bytes w ao bs) (h2 : Bytes w ao' bs) :
    Calls Try.prog 19 #[.slice ao bs.length c, .slice ao' bs.length c'] w fun e w' => e = .returned (.bool true) ∧ ∃ q, w' = w.drewN q := by
  obtain ⟨n, hn⟩ : ∃ n, n = bs.length := ⟨_, rfl⟩
  rw [← hn] at hb ⊢
  have HN : Hid (n = bs.length) := hn
  clear hn
  go_enter Try.func19, Try.ntmps19
  go_wp2
  go_loopw [5] (fun i wr => ∃ k q : Nat, k ≤ n ∧ i = .int .i64 k ∧ wr = w.drewN q) (fun i _ => n - (intOf i).toNat)
  case atStart => exact ⟨0, 0, Nat.zero_le _, rfl, rfl⟩
  case round =>
    obtain ⟨k, q, hk, rfl, rfl⟩ := hrel
    by_cases hlt : k < n
    · have hlt' : (k : Int) < (n : Int) := by omega
      obtain ⟨gx, ox, ex, hgx, hcx⟩ := h1 (by rw [← HN.out]; omega)
      obtain ⟨gy, oy, ey, hgy, hcy⟩ := h2 (by rw [← HN.out]; omega)
      subst ex
      subst ey
      have hc1 := hcx k (by rw [← HN.out]; omega)
      have hc2 := hcy k (by rw [← HN.out]; omega)
      generalize ((bs.getD k 0).toNat : Int) = y at hc1 hc2
      clear hcx hcy h1 h2
      go_wp2
      go_quiet (fail)
      go_wp2
      go_roundw
      case rel => exact ⟨k + 1, _, by omega, by go_num, rfl⟩
      case measure => simp [intOf]; omega
    · go_wp2
      go_ret
      exact ⟨rfl, _, rfl⟩
end Go.Proofs.Qxb6003782a
