/-
  copies, ZZCopies, zzBytes of the law: contracts.
-/
import Derived.Test.Qxb6003782aRows
import Derived.Test.Qxb6003782aRowLaws
import Derived.WalkLawsBesides
import Derived.LoopTactic
import Derived.RegionTactic
import Derived.Deep.QuietTactic
import Derived.BigQuiet
namespace Go.Proofs.Qxb6003782a
open Go.RowKit

theorem Try.info5 : (Try.prog.info? 5).map (fun i => (i.zero, i.size, i.bytes)) = some (some (.int .u8 0), 1, 1) := by kernel_rfl
theorem Try.sizeOf5 (w : World) : (Go.sizeOf 5).run Try.prog w = .ok 1 w := by kernel_rfl

/-- What lies in the row behind copies. -/
def bothAt (key value : ByteArray) : Nat → Value := laidOver (laidOver (fun _ => .int .u8 0) 0 key) key.size value

theorem eq_empty_of_size {b : ByteArray} (h : b.size = 0) : b = ByteArray.empty := by
  cases b with
  | mk d => congr 1; exact Array.eq_empty_of_size_eq_zero h

set_option maxHeartbeats 1000000 in
theorem copies_some (key value : ByteArray) (w : World) (hb : key.size + value.size ≤ 1048576) (hv : 0 < value.size) :
    Calls Try.prog 23 #[.string key, .string value] w fun e w' => e = .returned (.tuple #[.slice (some ⟨w.heap.size, 0, none⟩) key.size key.size, .slice (some ⟨w.heap.size, key.size, none⟩) value.size value.size]) ∧
      w'.rowIs w.heap.size 5 (key.size + value.size) (bothAt key value) ∧ Below w.heap.size w w' := by
  have hne : ¬ value = ByteArray.empty := fun h => by rw [h] at hv; exact absurd hv (by decide)
  obtain ⟨i0, hi, hz0, hz1, hz2⟩ := info_parts Try.info5
  go_enter Try.func23, Try.ntmps23
  go_wp2_with (first | (at_make; refine wpList_make_row _ rfl (.tmp 12) (.tmp 12) 29 rfl 5 i0 (.int .u8 0) Try.underlying29 hi hz0 hz1 rfl .i64 .i64 _ _ (key.size + value.size) rfl rfl (by omega) (by omega) (by rw [hz2]; omega) (by unfold maxLen; omega) ?_; intro w1 hr1 hb1) | (refine wpList_copy_string rfl (.tmp 14) (.tmp 15) 29 9 rfl 5 Try.underlying29 Try.sizeOf5 _ _ _ key rfl rfl w.heap.size 0 (key.size + value.size) _ hr1 (by omega) (fun _ => rfl) (by omega) ?_; intro w2 hr2 hb2) | (refine wpList_copy_string rfl (.tmp 19) (.tmp 20) 29 9 rfl 5 Try.underlying29 Try.sizeOf5 _ _ _ value rfl rfl w.heap.size key.size (key.size + value.size) _ hr2 (by omega) (fun _ => rfl) (by omega) ?_; intro w3 hr3 hb3))
  have hk : (key.size : Int) ≤ (key.size : Int) + (value.size : Int) := by omega
  go_quiet (fail)
  go_wp2
  go_ret2
  exact ⟨rfl, hr3, below_drewN (hb1.trans (hb2.trans hb3)) _⟩

set_option maxHeartbeats 1000000 in
theorem copies_none (key : ByteArray) (w : World) (hb : key.size ≤ 1048576) :
    Calls Try.prog 23 #[.string key, .string ByteArray.empty] w fun e w' => e = .returned (.tuple #[.slice (some ⟨w.heap.size, 0, none⟩) key.size key.size, .slice (some ⟨w.heap.size, 0, none⟩) 0 0]) ∧
      w'.rowIs w.heap.size 5 key.size (laidOver (fun _ => .int .u8 0) 0 key) ∧ Below w.heap.size w w' := by
  obtain ⟨i0, hi, hz0, hz1, hz2⟩ := info_parts Try.info5
  go_enter Try.func23, Try.ntmps23
  go_wp2_with (first | (at_make; refine wpList_make_row _ rfl (.tmp 12) (.tmp 12) 29 rfl 5 i0 (.int .u8 0) Try.underlying29 hi hz0 hz1 rfl .i64 .i64 _ _ key.size rfl rfl (by omega) (by omega) (by rw [hz2]; omega) (by unfold maxLen; omega) ?_; intro w1 hr1 hb1) | (refine wpList_copy_string rfl (.tmp 14) (.tmp 15) 29 9 rfl 5 Try.underlying29 Try.sizeOf5 _ _ _ key rfl rfl w.heap.size 0 key.size _ hr1 (by omega) (fun _ => rfl) (by omega) ?_; intro w2 hr2 hb2) | (refine wpList_copy_string rfl (.tmp 19) (.tmp 20) 29 9 rfl 5 Try.underlying29 Try.sizeOf5 _ _ _ ByteArray.empty rfl rfl w.heap.size 0 key.size _ hr2 (by simp) (fun _ => rfl) (by simp) ?_; intro w3 hr3 hb3))
  go_quiet (fail)
  go_wp2
  go_ret2
  exact ⟨rfl, hr3.congr (fun j _ => by unfold laidOver; rw [dif_neg (fun h => by have := h.2; simp at this)]), below_drewN (hb1.trans (hb2.trans hb3)) _⟩

/-- The bytes of key, then those of value. -/
def byteAt (key value : ByteArray) (j : Nat) : Int :=
  if h : j < key.size then (key[j].toNat : Int) else if h2 : j - key.size < value.size then (value[j - key.size].toNat : Int) else 0

theorem byteAt_key (key value : ByteArray) (j : Nat) (h : j < key.size) : byteAt key value j = (key[j].toNat : Int) := by
  unfold byteAt; rw [dif_pos h]
theorem byteAt_value (key value : ByteArray) (j : Nat) (h : j < value.size) : byteAt key value (key.size + j) = (value[j].toNat : Int) := by
  unfold byteAt
  rw [dif_neg (by omega)]
  have e : key.size + j - key.size = j := by omega
  simp only [e, dif_pos h]

theorem bothAt_eq (key value : ByteArray) (j : Nat) (h : j < key.size + value.size) : bothAt key value j = .int .u8 (byteAt key value j) := by
  unfold bothAt byteAt laidOver
  by_cases h1 : j < key.size
  · rw [dif_neg (by omega), dif_pos ⟨Nat.zero_le _, by omega⟩, dif_pos h1]
    simp
  · rw [dif_pos ⟨by omega, by omega⟩, dif_neg h1, dif_pos (by omega)]

theorem zzCopies_any (key value : ByteArray) (w : World) (hb : key.size + value.size ≤ 1048576) :
    Calls Try.prog 13 #[.string key, .string value] w fun e w' => ∃ off : Nat, e = .returned (.tuple #[.slice (some ⟨w.heap.size, 0, none⟩) key.size key.size, .slice (some ⟨w.heap.size, off, none⟩) value.size value.size]) ∧
      (0 < value.size → off = key.size) ∧ w'.rowIs w.heap.size 5 (key.size + value.size) (fun j => .int .u8 (byteAt key value j)) ∧ Below w.heap.size w w' := by
  by_cases hv : 0 < value.size
  · go_enter Try.func13, Try.ntmps13
    go_wp2_with (go_at_call 23; refine (copies_some key value _ hb hv).mono ?_; rintro e w' ⟨rfl, hr, hbl⟩)
    go_ret2
    exact ⟨key.size, rfl, fun _ => rfl, hr.congr (fun j hj => bothAt_eq key value j hj), hbl⟩
  · obtain rfl : value = ByteArray.empty := eq_empty_of_size (by omega)
    go_enter Try.func13, Try.ntmps13
    go_wp2_with (go_at_call 23; refine (copies_none key _ (by simpa using hb)).mono ?_; rintro e w' ⟨rfl, hr, hbl⟩)
    go_ret2
    refine ⟨0, rfl, fun h => absurd h hv, hr.congr (fun j hj => ?_), hbl⟩
    show _ = Value.int .u8 (byteAt key ByteArray.empty j)
    rw [byteAt_key key _ j (by simpa using hj)]
    unfold laidOver
    rw [dif_pos ⟨Nat.zero_le _, by simpa using hj⟩]
    simp

theorem zz12_any (a b : ByteArray) (w : World) (ha : a.size ≤ maxLen) (hb : b.size ≤ maxLen) :
    Calls Try.prog 12 #[.string a, .string b] w fun en w' => ∃ r : Bool, en = .returned (.bool r) ∧ w = w' ∧ (r = true → a.size + b.size ≤ 1048576) := by
  unfold maxLen at ha hb
  go_enter Try.func12, Try.ntmps12
  go_wp2
  all_goals (go_ret; exact ⟨_, rfl, rfl, fun h => by first | omega | cases h⟩)
end Go.Proofs.Qxb6003782a
