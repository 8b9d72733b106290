/-
  byteCmp of zzlaws_root_g2: the plain function, its laws (an order on lists of bytes), and the walk.
-/
import Derived.Test.Qxb6003782aRows
import Derived.Test.Qxb6003782aPlain
import Derived.WalkKit
import Derived.WalkLawsBesides
import Derived.LoopTactic
import Derived.Deep.QuietTactic
import Derived.BigQuiet
namespace Go.Proofs.Qxb6003782a
open Go.RowKit

theorem ret_int {k : IntKind} {a b : Int} (h : a = b) : Ending.returned (.int k a) = .returned (.int k b) := by rw [h]

theorem cmp3_step (a b : ByteArray) (k : Nat) (ha : k < a.size) (hb : k < b.size) (he : (a[k].toNat : Int) = (b[k].toNat : Int)) :
    cmp3 (a.data.toList.drop (k + 1)) (b.data.toList.drop (k + 1)) = cmp3 (a.data.toList.drop k) (b.data.toList.drop k) := by
  have e1 : a.data.toList.drop k = a[k] :: a.data.toList.drop (k + 1) := List.drop_eq_getElem_cons (by simpa using ha)
  have e2 : b.data.toList.drop k = b[k] :: b.data.toList.drop (k + 1) := List.drop_eq_getElem_cons (by simpa using hb)
  have e : a[k] = b[k] := UInt8.toNat_inj.1 (by omega)
  rw [e1, e2, cmp3, if_pos e]

theorem cmp3_lt (a b : ByteArray) (k : Nat) (ha : k < a.size) (hb : k < b.size) (he : (a[k].toNat : Int) < (b[k].toNat : Int)) :
    cmp3 (a.data.toList.drop k) (b.data.toList.drop k) = -1 := by
  have e1 : a.data.toList.drop k = a[k] :: a.data.toList.drop (k + 1) := List.drop_eq_getElem_cons (by simpa using ha)
  have e2 : b.data.toList.drop k = b[k] :: b.data.toList.drop (k + 1) := List.drop_eq_getElem_cons (by simpa using hb)
  have e : ¬ a[k] = b[k] := fun h => by rw [h] at he; omega
  rw [e1, e2, cmp3, if_neg e, if_pos (UInt8.lt_iff_toNat_lt.2 (by omega))]

theorem cmp3_gt (a b : ByteArray) (k : Nat) (ha : k < a.size) (hb : k < b.size) (he : (b[k].toNat : Int) < (a[k].toNat : Int)) :
    cmp3 (a.data.toList.drop k) (b.data.toList.drop k) = 1 := by
  have e1 : a.data.toList.drop k = a[k] :: a.data.toList.drop (k + 1) := List.drop_eq_getElem_cons (by simpa using ha)
  have e2 : b.data.toList.drop k = b[k] :: b.data.toList.drop (k + 1) := List.drop_eq_getElem_cons (by simpa using hb)
  have e : ¬ a[k] = b[k] := fun h => by rw [h] at he; omega
  rw [e1, e2, cmp3, if_neg e, if_neg (fun h => by have := UInt8.lt_iff_toNat_lt.1 h; omega)]

theorem cmp3_end (a b : ByteArray) (k : Nat) (h : ¬ (k < a.size ∧ k < b.size)) (hka : k ≤ a.size) (hkb : k ≤ b.size) :
    cmp3 (a.data.toList.drop k) (b.data.toList.drop k) = if a.size < b.size then -1 else if b.size < a.size then 1 else 0 := by
  have la : (a.data.toList.drop k).length = a.size - k := by simp
  have lb : (b.data.toList.drop k).length = b.size - k := by simp
  match ha : a.data.toList.drop k, hb : b.data.toList.drop k with
  | [], [] => simp [ha, hb] at la lb; simp [cmp3]; omega
  | [], _ :: _ => simp [ha, hb] at la lb; simp [cmp3]; omega
  | _ :: _, [] => simp [ha, hb] at la lb; simp [cmp3]; omega
  | _ :: _, _ :: _ => simp [ha, hb] at la lb; omega

set_option maxHeartbeats 400000 in
theorem byteCmp_any (a b : ByteArray) (w : World) (ha : a.size ≤ maxLen) (_hb : b.size ≤ maxLen) :
    Calls Try.prog 10 #[.string a, .string b] w fun e w' => e = .returned (.int .i64 (cmp3 a.data.toList b.data.toList)) ∧ ∃ n, w' = w.drewN n := by
  unfold maxLen at ha _hb
  go_enter Try.func10, Try.ntmps10
  go_wp2
  go_loopw [5] (fun i wr => ∃ k n : Nat, k ≤ a.size ∧ k ≤ b.size ∧ i = .int .i64 k ∧ wr = w.drewN n ∧ Hid (cmp3 a.data.toList b.data.toList = cmp3 (a.data.toList.drop k) (b.data.toList.drop k))) (fun i _ => a.size - (intOf i).toNat)
  case atStart => exact ⟨0, 0, Nat.zero_le _, Nat.zero_le _, rfl, rfl, rfl⟩
  case round =>
    obtain ⟨k, n, hka, hkb, rfl, rfl, HC⟩ := hrel
    by_cases hlt : k < a.size ∧ k < b.size
    · obtain ⟨h1, h2⟩ := hlt
      have h1' : (k : Int) < (a.size : Int) := by omega
      have h2' : (k : Int) < (b.size : Int) := by omega
      go_wp2
      go_quiet (fail)
      go_wp2
      · have hne : ((a[k].toNat : Int) != (b[k].toNat : Int)) = true := by assumption
        go_quiet (fail)
        go_wp2
        · go_ret
          exact ⟨ret_int (by rw [HC.out, cmp3_lt a b k h1 h2 (by omega)]), _, by simp only [World.drewN_drewN]; rfl⟩
        · rw [bne_iff_ne] at hne
          have hgt : (b[k].toNat : Int) < (a[k].toNat : Int) := by omega
          go_ret
          exact ⟨ret_int (by rw [HC.out, cmp3_gt a b k h1 h2 hgt]), _, by simp only [World.drewN_drewN]; rfl⟩
      · have hne : ((a[k].toNat : Int) != (b[k].toNat : Int)) = false := by assumption
        have heq : (a[k].toNat : Int) = (b[k].toNat : Int) := by simpa using hne
        go_roundw
        case rel => exact ⟨k + 1, _, by omega, by omega, by go_num, rfl, HC.out.trans (cmp3_step a b k h1 h2 heq).symm⟩
        case measure => simp [intOf]; omega
    · have HE : Hid (cmp3 (a.data.toList.drop k) (b.data.toList.drop k) = if a.size < b.size then -1 else if b.size < a.size then 1 else 0) := cmp3_end a b k hlt hka hkb
      by_cases g1 : k < a.size
      · have g2 : ¬ k < b.size := fun h => hlt ⟨g1, h⟩
        go_wp2
        all_goals
          go_ret
          exact ⟨ret_int (by rw [HC.out, HE.out]; first | rw [if_pos ‹_›] | rw [if_neg ‹_›, if_pos ‹_›] | rw [if_neg ‹_›, if_neg ‹_›]), _, rfl⟩
      · go_wp2
        all_goals
          go_ret
          exact ⟨ret_int (by rw [HC.out, HE.out]; first | rw [if_pos ‹_›] | rw [if_neg ‹_›, if_pos ‹_›] | rw [if_neg ‹_›, if_neg ‹_›]), _, rfl⟩
end Go.Proofs.Qxb6003782a
