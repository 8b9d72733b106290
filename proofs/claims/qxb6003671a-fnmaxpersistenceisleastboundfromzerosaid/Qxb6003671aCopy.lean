/-
  zzBytes, copyBools, copyInt64s: contracts.
-/
import Derived.Test.Qxb6003671aRows
import Derived.Test.Qxb6003671aLaws
import Derived.WalkLawsBesides
import Derived.WalkSpells
import Derived.LoopTactic
import Derived.RegionTactic
import Derived.Deep.QuietTactic
import Derived.BigQuiet
namespace Go.Proofs.Qxb6003671a
open Go.RowKit
set_option linter.unusedVariables false

theorem Try.info4 : (Try.prog.info? 4).map (fun i => (i.zero, i.size, i.bytes)) = some (some (.bool false), 1, 1) := by kernel_rfl
theorem Try.info2 : (Try.prog.info? 2).map (fun i => (i.zero, i.size, i.bytes)) = some (some (.int .i64 0), 1, 8) := by kernel_rfl

theorem zz7_any (a0 a1 : Option Addr) (l0 c0 l1 c1 : Nat) (x : Int) (w : World) :
    Calls Try.prog 7 #[.slice a0 l0 c0, .slice a1 l1 c1, .int .i64 x] w fun en w' => ∃ r : Bool, en = .returned (.bool r) ∧ w = w' := by
  go_enter Try.func7, Try.ntmps7
  go_wp2
  all_goals (go_ret; exact ⟨_, rfl, rfl⟩)

theorem zz13_any (a0 a1 : Option Addr) (l0 c0 l1 c1 : Nat) (x : Int) (w : World) :
    Calls Try.prog 13 #[.slice a0 l0 c0, .slice a1 l1 c1, .int .i64 x] w fun en w' => ∃ r : Bool, en = .returned (.bool r) ∧ w = w' := by
  go_enter Try.func13, Try.ntmps13
  go_wp2
  all_goals (go_ret; exact ⟨_, rfl, rfl⟩)

theorem copyBools_nil (c : Nat) (w : World) :
    Calls Try.prog 8 #[.slice none 0 c] w fun e w' => e = .returned (.slice none 0 0) ∧ w = w' := by
  have hn : ∀ w, (binOp .eql 22 (.slice none 0 c) (.slice none 0 0)).run Try.prog w = .ok (.bool true) w := fun w => run_eql_slice_nil w 22 4 none 0 c Try.underlying22
  go_enter Try.func8, Try.ntmps8
  go_wp2
  go_ret
  exact ⟨rfl, rfl⟩

theorem copyInts_nil (c : Nat) (w : World) :
    Calls Try.prog 9 #[.slice none 0 c] w fun e w' => e = .returned (.slice none 0 0) ∧ w = w' := by
  have hn : ∀ w, (binOp .eql 23 (.slice none 0 c) (.slice none 0 0)).run Try.prog w = .ok (.bool true) w := fun w => run_eql_slice_nil w 23 2 none 0 c Try.underlying23
  go_enter Try.func9, Try.ntmps9
  go_wp2
  go_ret
  exact ⟨rfl, rfl⟩

set_option maxHeartbeats 1000000 in
theorem copyBools_some (x : Addr) (c n : Nat) (f : Nat → Bool) (w : World) (hb : n ≤ 1048576) (hB : Cells w (some x) n (fun j => .bool (f j))) :
    Calls Try.prog 8 #[.slice (some x) n c] w fun e w' => e = .returned (.slice (some ⟨w.heap.size, 0, none⟩) n n) ∧ w'.rowIs w.heap.size 4 n (fun j => .bool (f j)) ∧ Below w.heap.size w w' := by
  obtain ⟨i0, hi, hz0, hz1, hz2⟩ := info_parts Try.info4
  have he : ∀ w, (binOp .eql 22 (.slice (some x) n c) (.slice none 0 0)).run Try.prog w = .ok (.bool false) w := fun w => run_eql_slice_nil w 22 4 (some x) n c Try.underlying22
  go_enter Try.func8, Try.ntmps8
  go_wp2_with (at_make; refine wpList_make_row _ rfl _ _ 22 rfl 4 i0 (.bool false) Try.underlying22 hi hz0 hz1 rfl .i64 .i64 _ _ n rfl rfl (by omega) (by omega) (by rw [hz2]; omega) (by unfold maxLen; omega) ?_; intro w1 hr1 hb1)
  go_loopw [4] (fun i wr => ∃ k : Nat, k ≤ n ∧ i = .int .i64 k ∧ wr.rowIs w.heap.size 4 n (upTo (fun j => .bool (f j)) (.bool false) k) ∧ Below w.heap.size w wr) (fun i _ => n - (intOf i).toNat)
  case atStart => exact ⟨0, Nat.zero_le _, rfl, hr1.congr (fun j _ => by simp [upTo]), hb1⟩
  case round =>
    clear hr1 hb1 w1
    obtain ⟨k, hk, rfl, hr, hbl⟩ := hrel
    by_cases hlt : k < n
    · have hlt' : (k : Int) < (n : Int) := by omega
      obtain ⟨gx, ox, ex, hgx, hcx⟩ := hB (by omega)
      simp only [Option.some.injEq] at ex
      subst ex
      have hc : wr.cell? ⟨gx, ox + k, none⟩ = some (.bool (f k)) := by rw [hbl.cell (by exact hgx)]; exact hcx k hlt
      clear hcx hB
      have hce := hr.cell (i := k) hlt
      have hfz : wr.frozen? ⟨w.heap.size, k, none⟩ = false := hr.frozen _
      go_wp2
      go_roundw
      case rel => exact ⟨k + 1, by omega, by go_num, row_upTo hr, hbl.setCell (Nat.le_refl _) _⟩
      case measure => simp [intOf]; omega
    · go_wp2
      go_ret
      exact ⟨rfl, hr.congr (fun j hj => by unfold upTo; rw [if_pos (by omega)]), hbl⟩

set_option maxHeartbeats 1000000 in
theorem copyInts_some (x : Addr) (c n : Nat) (f : Nat → Int) (w : World) (hb : n ≤ 1048576) (hB : Cells w (some x) n (fun j => .int .i64 (f j))) :
    Calls Try.prog 9 #[.slice (some x) n c] w fun e w' => e = .returned (.slice (some ⟨w.heap.size, 0, none⟩) n n) ∧ w'.rowIs w.heap.size 2 n (fun j => .int .i64 (f j)) ∧ Below w.heap.size w w' := by
  obtain ⟨i0, hi, hz0, hz1, hz2⟩ := info_parts Try.info2
  have he : ∀ w, (binOp .eql 23 (.slice (some x) n c) (.slice none 0 0)).run Try.prog w = .ok (.bool false) w := fun w => run_eql_slice_nil w 23 2 (some x) n c Try.underlying23
  go_enter Try.func9, Try.ntmps9
  go_wp2_with (at_make; refine wpList_make_row _ rfl _ _ 23 rfl 2 i0 (.int .i64 0) Try.underlying23 hi hz0 hz1 rfl .i64 .i64 _ _ n rfl rfl (by omega) (by omega) (by rw [hz2]; omega) (by unfold maxLen; omega) ?_; intro w1 hr1 hb1)
  go_loopw [4] (fun i wr => ∃ k : Nat, k ≤ n ∧ i = .int .i64 k ∧ wr.rowIs w.heap.size 2 n (upTo (fun j => .int .i64 (f j)) (.int .i64 0) k) ∧ Below w.heap.size w wr) (fun i _ => n - (intOf i).toNat)
  case atStart => exact ⟨0, Nat.zero_le _, rfl, hr1.congr (fun j _ => by simp [upTo]), hb1⟩
  case round =>
    clear hr1 hb1 w1
    obtain ⟨k, hk, rfl, hr, hbl⟩ := hrel
    by_cases hlt : k < n
    · have hlt' : (k : Int) < (n : Int) := by omega
      obtain ⟨gx, ox, ex, hgx, hcx⟩ := hB (by omega)
      simp only [Option.some.injEq] at ex
      subst ex
      have hc : wr.cell? ⟨gx, ox + k, none⟩ = some (.int .i64 (f k)) := by rw [hbl.cell (by exact hgx)]; exact hcx k hlt
      clear hcx hB
      have hce := hr.cell (i := k) hlt
      have hfz : wr.frozen? ⟨w.heap.size, k, none⟩ = false := hr.frozen _
      go_wp2
      go_roundw
      case rel => exact ⟨k + 1, by omega, by go_num, row_upTo hr, hbl.setCell (Nat.le_refl _) _⟩
      case measure => simp [intOf]; omega
    · go_wp2
      go_ret
      exact ⟨rfl, hr.congr (fun j hj => by unfold upTo; rw [if_pos (by omega)]), hbl⟩

theorem copyBools_any (ao : Option Addr) (c n : Nat) (f : Nat → Bool) (w : World) (hb : n ≤ 1048576) (hB : Cells w ao n (fun j => .bool (f j))) :
    Calls Try.prog 8 #[.slice ao n c] w fun e w' => ∃ ao', e = .returned (.slice ao' n n) ∧ Cells w' ao' n (fun j => .bool (f j)) ∧ Below w.heap.size w w' := by
  cases ao with
  | none =>
    have h0 : n = 0 := by
      by_cases h : 0 < n
      · obtain ⟨_, _, e, _⟩ := hB h; cases e
      · omega
    subst h0
    exact (copyBools_nil c w).mono fun e w' ⟨h1, h2⟩ => ⟨none, h1, fun h => by omega, h2 ▸ Below.refl _ _⟩
  | some x => exact (copyBools_some x c n f w hb hB).mono fun e w' ⟨h1, h2, h3⟩ => ⟨_, h1, Cells.of_row h2, h3⟩

theorem copyInts_any (ao : Option Addr) (c n : Nat) (f : Nat → Int) (w : World) (hb : n ≤ 1048576) (hB : Cells w ao n (fun j => .int .i64 (f j))) :
    Calls Try.prog 9 #[.slice ao n c] w fun e w' => ∃ ao', e = .returned (.slice ao' n n) ∧ Cells w' ao' n (fun j => .int .i64 (f j)) ∧ Below w.heap.size w w' := by
  cases ao with
  | none =>
    have h0 : n = 0 := by
      by_cases h : 0 < n
      · obtain ⟨_, _, e, _⟩ := hB h; cases e
      · omega
    subst h0
    exact (copyInts_nil c w).mono fun e w' ⟨h1, h2⟩ => ⟨none, h1, fun h => by omega, h2 ▸ Below.refl _ _⟩
  | some x => exact (copyInts_some x c n f w hb hB).mono fun e w' ⟨h1, h2, h3⟩ => ⟨_, h1, Cells.of_row h2, h3⟩
end Go.Proofs.Qxb6003671a
