/-
  The walks of FnReadToIsWhatTheScanOrderPassed and FnJoinedHoldsExactlyTheKeysOfBoth, out of the callees' contracts.
-/
import Derived.Test.Qxb6003782aRange
namespace Go.Proofs.Qxb6003782a
open Go.RowKit

theorem byteCmp_gr (a b : ByteArray) (w : World) (ha : a.size ≤ maxLen) (hb : b.size ≤ maxLen) :
    Calls Try.prog 10 #[.string a, .string b] w fun e w' => e = .returned (.int .i64 (cmp3 a.data.toList b.data.toList)) ∧ Grown w w' :=
  (byteCmp_any a b w ha hb).mono fun _ _ ⟨h, n, hw⟩ => ⟨h, hw ▸ grown_drewN (Grown.refl _) n⟩
theorem zz7_gr (a b : ByteArray) (x y : Bool) (c : ByteArray) (o : Int) (d : ByteArray) (w : World) :
    Calls Try.prog 7 #[.string a, .string b, .bool x, .bool y, .string c, .int .i64 o, .string d] w fun en w' => ∃ r : Bool, en = .returned (.bool r) ∧ Grown w w' :=
  (zz7_any a b x y c o d w).mono fun _ _ ⟨r, h, hw⟩ => ⟨r, h, hw ▸ Grown.refl _⟩
theorem zz14_gr (a b : ByteArray) (x y : Bool) (c d : ByteArray) (x' y' : Bool) (f : ByteArray) (w : World) :
    Calls Try.prog 14 #[.string a, .string b, .bool x, .bool y, .string c, .string d, .bool x', .bool y', .string f] w fun en w' => ∃ r : Bool, en = .returned (.bool r) ∧ Grown w w' :=
  (zz14_any a b x y c d x' y' f w).mono fun _ _ ⟨r, h, hw⟩ => ⟨r, h, hw ▸ Grown.refl _⟩
theorem precedes_gr (o : Int) (a b : ByteArray) (w : World) :
    Calls Try.prog 11 #[.int .i64 o, .string a, .string b] w fun en w' => en = .returned (.bool (precB o a.data.toList b.data.toList)) ∧ Grown w w' :=
  (precedes_any o a b w).mono fun _ _ ⟨h, hw⟩ => ⟨h, hw ▸ Grown.refl _⟩

set_option maxHeartbeats 1000000 in
theorem joined_walk (a0 : ByteArray) (a1 : ByteArray) (a2 : Bool) (a3 : Bool) (a4 : ByteArray) (a5 : ByteArray) (a6 : Bool) (a7 : Bool) (a8 : ByteArray) (w0 : a0.size ≤ maxLen) (w1 : a1.size ≤ maxLen) (w4 : a4.size ≤ maxLen) (w5 : a5.size ≤ maxLen) (w8 : a8.size ≤ maxLen) (w : World) :
    Calls Try.prog 5 #[.string a0, .string a1, .bool a2, .bool a3, .string a4, .string a5, .bool a6, .bool a7, .string a8] w fun e w' => e = .returned (.bool true) ∧ Grown w w' := by
  have hself := cmp3_self a0.data.toList
  have G0 : Grown w w := Grown.refl w
  cases a3 <;> cases hE : endsB a5.data.toList a6 a7 a1.data.toList a2 _
  · go_enter Try.func5, Try.ntmps5
    go_wp2_with (first | (go_at_call 14; refine (zz14_gr _ _ _ _ _ _ _ _ _ _).mono ?_; rintro en w' ⟨r, rfl, hg⟩; have G := grown_trans (a := w) (by assumption) hg; clear hg) | (go_at_call 10; refine (byteCmp_gr _ _ _ (by assumption) (by assumption)).mono ?_; rintro en w' ⟨rfl, hg⟩; have G := grown_trans (a := w) (by assumption) hg; clear hg) | (go_at_call 15; refine (zzJoined_no _ _ _ _ _ _ _ _ hE _).mono ?_; rintro en w' ⟨rfl, hg⟩; have G := grown_trans (a := w) (by assumption) hg; clear hg) | (go_at_call 8; refine (member_any _ _ _ _ _ _ (by assumption) (by assumption) (by assumption)).mono ?_; rintro en w' ⟨rfl, hg⟩; have G := grown_trans (a := w) (by assumption) hg; clear hg))
    all_goals (go_ret; refine ⟨ret_bool ?_, by assumption⟩)
    all_goals (try rfl)
    all_goals
      have HL := joined_law a0.data.toList a1.data.toList a2 false a4.data.toList a5.data.toList a6 a7 a8.data.toList (by omega) (fun h => by first | omega | cases h)
      rw [hE] at HL
      clear hE
      simp_all
  · go_enter Try.func5, Try.ntmps5
    go_wp2_with (first | (go_at_call 14; refine (zz14_gr _ _ _ _ _ _ _ _ _ _).mono ?_; rintro en w' ⟨r, rfl, hg⟩; have G := grown_trans (a := w) (by assumption) hg; clear hg) | (go_at_call 10; refine (byteCmp_gr _ _ _ (by assumption) (by assumption)).mono ?_; rintro en w' ⟨rfl, hg⟩; have G := grown_trans (a := w) (by assumption) hg; clear hg) | (go_at_call 15; refine (zzJoined_yes _ _ _ _ _ _ _ _ hE _).mono ?_; rintro en w' ⟨rfl, hg⟩; have G := grown_trans (a := w) (by assumption) hg; clear hg) | (go_at_call 8; refine (member_any _ _ _ _ _ _ (by assumption) (by assumption) (by assumption)).mono ?_; rintro en w' ⟨rfl, hg⟩; have G := grown_trans (a := w) (by assumption) hg; clear hg))
    all_goals (go_ret; refine ⟨ret_bool ?_, by assumption⟩)
    all_goals (try rfl)
    all_goals
      have HL := joined_law a0.data.toList a1.data.toList a2 false a4.data.toList a5.data.toList a6 a7 a8.data.toList (by omega) (fun h => by first | omega | cases h)
      rw [hE] at HL
      clear hE
      simp_all
  · go_enter Try.func5, Try.ntmps5
    go_wp2_with (first | (go_at_call 14; refine (zz14_gr _ _ _ _ _ _ _ _ _ _).mono ?_; rintro en w' ⟨r, rfl, hg⟩; have G := grown_trans (a := w) (by assumption) hg; clear hg) | (go_at_call 10; refine (byteCmp_gr _ _ _ (by assumption) (by assumption)).mono ?_; rintro en w' ⟨rfl, hg⟩; have G := grown_trans (a := w) (by assumption) hg; clear hg) | (go_at_call 15; refine (zzJoined_no _ _ _ _ _ _ _ _ hE _).mono ?_; rintro en w' ⟨rfl, hg⟩; have G := grown_trans (a := w) (by assumption) hg; clear hg) | (go_at_call 8; refine (member_any _ _ _ _ _ _ (by assumption) (by assumption) (by assumption)).mono ?_; rintro en w' ⟨rfl, hg⟩; have G := grown_trans (a := w) (by assumption) hg; clear hg))
    all_goals (go_ret; refine ⟨ret_bool ?_, by assumption⟩)
    all_goals (try rfl)
    all_goals
      have HL := joined_law a0.data.toList a1.data.toList a2 true a4.data.toList a5.data.toList a6 a7 a8.data.toList (by omega) (fun h => by first | omega | cases h)
      rw [hE] at HL
      clear hE
      simp_all
  · go_enter Try.func5, Try.ntmps5
    go_wp2_with (first | (go_at_call 14; refine (zz14_gr _ _ _ _ _ _ _ _ _ _).mono ?_; rintro en w' ⟨r, rfl, hg⟩; have G := grown_trans (a := w) (by assumption) hg; clear hg) | (go_at_call 10; refine (byteCmp_gr _ _ _ (by assumption) (by assumption)).mono ?_; rintro en w' ⟨rfl, hg⟩; have G := grown_trans (a := w) (by assumption) hg; clear hg) | (go_at_call 15; refine (zzJoined_yes _ _ _ _ _ _ _ _ hE _).mono ?_; rintro en w' ⟨rfl, hg⟩; have G := grown_trans (a := w) (by assumption) hg; clear hg) | (go_at_call 8; refine (member_any _ _ _ _ _ _ (by assumption) (by assumption) (by assumption)).mono ?_; rintro en w' ⟨rfl, hg⟩; have G := grown_trans (a := w) (by assumption) hg; clear hg))
    all_goals (go_ret; refine ⟨ret_bool ?_, by assumption⟩)
    all_goals (try rfl)
    all_goals
      have HL := joined_law a0.data.toList a1.data.toList a2 true a4.data.toList a5.data.toList a6 a7 a8.data.toList (by omega) (fun h => by first | omega | cases h)
      rw [hE] at HL
      clear hE
      simp_all

set_option maxHeartbeats 1000000 in
theorem readTo_walk (a0 : ByteArray) (a1 : ByteArray) (a2 : Bool) (a3 : Bool) (a4 : ByteArray) (a5 : Int) (a6 : ByteArray) (w0 : a0.size ≤ maxLen) (w1 : a1.size ≤ maxLen) (w4 : a4.size ≤ maxLen) (w6 : a6.size ≤ maxLen) (w : World) :
    Calls Try.prog 3 #[.string a0, .string a1, .bool a2, .bool a3, .string a4, .int .i64 a5, .string a6] w fun e w' => e = .returned (.bool true) ∧ Grown w w' := by
  have G0 : Grown w w := Grown.refl w
  by_cases ho : a5 = 1
  · subst ho
    go_enter Try.func3, Try.ntmps3
    go_wp2_with (first | (go_at_call 7; refine (zz7_gr _ _ _ _ _ _ _ _).mono ?_; rintro en w' ⟨r, rfl, hg⟩; have G := grown_trans (a := w) (by assumption) hg; clear hg) | (go_at_call 10; refine (byteCmp_gr _ _ _ (by assumption) (by assumption)).mono ?_; rintro en w' ⟨rfl, hg⟩; have G := grown_trans (a := w) (by assumption) hg; clear hg) | (go_at_call 11; refine (precedes_gr _ _ _ _).mono ?_; rintro en w' ⟨rfl, hg⟩; have G := grown_trans (a := w) (by assumption) hg; clear hg) | (go_at_call 9; refine (zzReadTo_desc _ _ _ _ _ _).mono ?_; rintro en w' ⟨rfl, hg⟩; have G := grown_trans (a := w) (by assumption) hg; clear hg) | (go_at_call 8; refine (member_any _ _ _ _ _ _ (by assumption) (by assumption) (by assumption)).mono ?_; rintro en w' ⟨rfl, hg⟩; have G := grown_trans (a := w) (by assumption) hg; clear hg))
    all_goals (go_ret; refine ⟨ret_bool ?_, by assumption⟩)
    all_goals (try rfl)
    all_goals
      have HL := readTo_law a0.data.toList a1.data.toList a2 a3 a4.data.toList 1 a6.data.toList (by simpa using ‹(!memB a0.data.toList a1.data.toList a2 a3 a4.data.toList) = false›)
      simp_all
  · have hb : (a5 == 1) = false := by simpa using ho
    go_enter Try.func3, Try.ntmps3
    go_wp2_with (first | (go_at_call 7; refine (zz7_gr _ _ _ _ _ _ _ _).mono ?_; rintro en w' ⟨r, rfl, hg⟩; have G := grown_trans (a := w) (by assumption) hg; clear hg) | (go_at_call 10; refine (byteCmp_gr _ _ _ (by assumption) (by assumption)).mono ?_; rintro en w' ⟨rfl, hg⟩; have G := grown_trans (a := w) (by assumption) hg; clear hg) | (go_at_call 11; refine (precedes_gr _ _ _ _).mono ?_; rintro en w' ⟨rfl, hg⟩; have G := grown_trans (a := w) (by assumption) hg; clear hg) | (go_at_call 9; refine (zzReadTo_asc _ _ _ _ _ _ hb _).mono ?_; rintro en w' ⟨rfl, hg⟩; have G := grown_trans (a := w) (by assumption) hg; clear hg) | (go_at_call 8; refine (member_any _ _ _ _ _ _ (by assumption) (by assumption) (by assumption)).mono ?_; rintro en w' ⟨rfl, hg⟩; have G := grown_trans (a := w) (by assumption) hg; clear hg))
    all_goals (go_ret; refine ⟨ret_bool ?_, by assumption⟩)
    all_goals (try rfl)
    all_goals
      have HL := readTo_law a0.data.toList a1.data.toList a2 a3 a4.data.toList a5 a6.data.toList (by simpa using ‹(!memB a0.data.toList a1.data.toList a2 a3 a4.data.toList) = false›)
      simp_all
end Go.Proofs.Qxb6003782a
