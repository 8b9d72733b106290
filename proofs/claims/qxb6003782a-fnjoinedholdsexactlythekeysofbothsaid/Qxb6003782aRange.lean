/-
  The walks on the roads of FnReadToIsWhatTheScanOrderPassed and FnJoinedHoldsExactlyTheKeysOfBoth: each callee's contract.
-/
import Derived.Test.Qxb6003782aCmp
import Derived.RegionTactic
import Derived.Deep.RegionWith
import Derived.Laws.Strings
namespace Go.Proofs.Qxb6003782a
open Go.RowKit

theorem grown_trans {a b c : World} (h : Grown a b) (k : Grown b c) : Grown a c :=
  ⟨World.keptBut_trans h.1 (World.keptBut_mono (fun _ f => f.elim) k.1), fun x => (k.2.1 x).trans (h.2.1 x), Nat.le_trans h.2.2 k.2.2⟩

theorem grown_drewN {a b : World} (h : Grown a b) (n : Nat) : Grown a (b.drewN n) := h

theorem ret_bool {a b : Bool} (h : a = b) : Ending.returned (.bool a) = .returned (.bool b) := by rw [h]

set_option maxHeartbeats 400000 in
theorem member_any (s e : ByteArray) (thr opn : Bool) (k : ByteArray) (w : World) (hs : s.size ≤ maxLen) (he : e.size ≤ maxLen) (hk : k.size ≤ maxLen) :
    Calls Try.prog 8 #[.string s, .string e, .bool thr, .bool opn, .string k] w fun en w' => en = .returned (.bool (memB s.data.toList e.data.toList thr opn k.data.toList)) ∧ Grown w w' := by
  go_enter Try.func8, Try.ntmps8
  go_wp2_with (go_at_call 10; refine (byteCmp_any _ _ _ (by assumption) (by assumption)).mono ?_; rintro en w' ⟨rfl, n, rfl⟩)
  all_goals
    go_ret
    exact ⟨ret_bool (by simp [memB, *]), by repeat (first | exact Grown.refl _ | apply grown_drewN)⟩

theorem zz7_any (a b : ByteArray) (x y : Bool) (c : ByteArray) (o : Int) (d : ByteArray) (w : World) :
    Calls Try.prog 7 #[.string a, .string b, .bool x, .bool y, .string c, .int .i64 o, .string d] w fun en w' => ∃ r : Bool, en = .returned (.bool r) ∧ w' = w := by
  go_enter Try.func7, Try.ntmps7
  go_wp2
  all_goals (go_ret; exact ⟨_, rfl, rfl⟩)

theorem zz14_any (a b : ByteArray) (x y : Bool) (c d : ByteArray) (x' y' : Bool) (f : ByteArray) (w : World) :
    Calls Try.prog 14 #[.string a, .string b, .bool x, .bool y, .string c, .string d, .bool x', .bool y', .string f] w fun en w' => ∃ r : Bool, en = .returned (.bool r) ∧ w' = w := by
  go_enter Try.func14, Try.ntmps14
  go_wp2
  all_goals (go_ret; exact ⟨_, rfl, rfl⟩)

theorem precedes_any (o : Int) (a b : ByteArray) (w : World) :
    Calls Try.prog 11 #[.int .i64 o, .string a, .string b] w fun en w' => en = .returned (.bool (precB o a.data.toList b.data.toList)) ∧ w' = w := by
  by_cases ho : o = 1
  · subst ho
    go_enter Try.func11, Try.ntmps11
    go_wp2
    go_ret
    exact ⟨ret_bool (by rw [ByteArray.toList_eq, ByteArray.toList_eq, bytesLess_cmp3, beq_cmp3]; have := cmp3_bd a.data.toList b.data.toList; rw [Bool.eq_iff_iff]; simp [precB]; omega), rfl⟩
  · go_enter Try.func11, Try.ntmps11
    go_wp2
    go_ret
    exact ⟨ret_bool (by rw [ByteArray.toList_eq, ByteArray.toList_eq, bytesLess_cmp3]; simp [precB, ho]), rfl⟩

theorem readTo_desc (s e : ByteArray) (thr opn : Bool) (k : ByteArray) (w : World) :
    Calls Try.prog 21 #[.agg #[.string s, .string e, .bool thr, .bool opn], .string k, .int .i64 1] w fun en w' => en = .returned (.agg #[.string k, .string e, .bool thr, .bool opn]) ∧ Grown w w' := by
  go_enter Try.func21, Try.ntmps21
  go_wp2
  refine bodyPost_ret (v := .agg #[.string k, .string e, .bool thr, .bool opn]) (by simp [results, Try.results21, go_sem]) rfl ⟨rfl, ?_⟩
  repeat (first | exact Grown.refl _ | apply Grown.alloc)

theorem readTo_asc (s e : ByteArray) (thr opn : Bool) (k : ByteArray) (o : Int) (ho : (o == 1) = false) (w : World) :
    Calls Try.prog 21 #[.agg #[.string s, .string e, .bool thr, .bool opn], .string k, .int .i64 o] w fun en w' => en = .returned (.agg #[.string s, .string k, .bool true, .bool false]) ∧ Grown w w' := by
  go_enter Try.func21, Try.ntmps21
  go_wp2
  refine bodyPost_ret (v := .agg #[.string s, .string k, .bool true, .bool false]) (by simp [results, Try.results21, go_sem]) rfl ⟨rfl, ?_⟩
  repeat (first | exact Grown.refl _ | apply Grown.alloc)

theorem ends_ne {a b : ByteArray} (h : (!a.toList == b.toList) = true) : ¬ cmp3 a.data.toList b.data.toList = 0 := by
  rw [ByteArray.toList_eq, ByteArray.toList_eq, beq_cmp3] at h; simpa using h
theorem ends_eq {a b : ByteArray} (h : (!a.toList == b.toList) = false) : cmp3 a.data.toList b.data.toList = 0 := by
  rw [ByteArray.toList_eq, ByteArray.toList_eq, beq_cmp3] at h; simpa using h
theorem gtr_cmp3 (a b : ByteArray) : (!(Op.bytesLess a.toList b.toList || a.toList == b.toList)) = decide (0 < cmp3 a.data.toList b.data.toList) := by
  rw [ByteArray.toList_eq, ByteArray.toList_eq, bytesLess_cmp3, beq_cmp3]; have := cmp3_bd a.data.toList b.data.toList; rw [Bool.eq_iff_iff]; simp; omega

theorem gtr_ne3 (a b : ByteArray) (h : ¬ cmp3 a.data.toList b.data.toList = 0) : (!(Op.bytesLess a.toList b.toList)) = decide (0 < cmp3 a.data.toList b.data.toList) := by
  rw [ByteArray.toList_eq, ByteArray.toList_eq, bytesLess_cmp3]; have := cmp3_bd a.data.toList b.data.toList; rw [Bool.eq_iff_iff]; simp; omega

theorem endsAfter_any (s e : ByteArray) (thr opn : Bool) (s' e' : ByteArray) (thr' opn' : Bool) (w : World) :
    Calls Try.prog 27 #[.agg #[.string s, .string e, .bool thr, .bool opn], .agg #[.string s', .string e', .bool thr', .bool opn']] w
      fun en w' => en = .returned (.bool (endsB e.data.toList thr opn e'.data.toList thr' opn')) ∧ w' = (w.alloc (.cells #[.string s, .string e, .bool thr, .bool opn] 42)).alloc (.cells #[.string s', .string e', .bool thr', .bool opn'] 42) := by
  go_enter Try.func27, Try.ntmps27
  go_wp2
  · go_ret
    exact ⟨ret_bool (by simp [endsB, *]), by simp only [*]⟩
  · go_ret
    exact ⟨ret_bool (by simp [endsB, *]), by simp only [*]⟩
  · have h := ends_ne ‹_›
    go_ret
    exact ⟨ret_bool ((gtr_ne3 e e' h).trans (by simp [endsB, *])), by simp only [*]⟩
  · have h := ends_eq ‹_›
    go_ret
    exact ⟨ret_bool (by simp [endsB, *]), by simp only [*]⟩
  · have h := ends_eq ‹_›
    go_ret
    exact ⟨ret_bool (by simp [endsB, *]), by simp only [*]⟩

set_option maxHeartbeats 1000000 in
theorem joined_yes (s e : ByteArray) (thr opn : Bool) (s' e' : ByteArray) (thr' opn' : Bool) (w : World) (h : endsB e'.data.toList thr' opn' e.data.toList thr opn = true) :
    Calls Try.prog 24 #[.agg #[.string s, .string e, .bool thr, .bool opn], .agg #[.string s', .string e', .bool thr', .bool opn']] w
      fun en w' => en = .returned (.agg #[.string s, .string e', .bool thr', .bool opn']) ∧ Grown w w' := by
  go_enter Try.func24, Try.ntmps24
  go_wp2_with (go_at_call 27; refine (endsAfter_any _ _ _ _ _ _ _ _ _).mono ?_; rintro en w' ⟨rfl, rfl⟩)
  go_region
  all_goals go_wp2
  refine bodyPost_ret (v := .agg #[.string s, .string e', .bool thr', .bool opn']) (by simp [results, Try.results24, go_sem]) rfl ⟨rfl, ?_⟩
  repeat (first | exact Grown.refl _ | apply Grown.drew | apply Grown.alloc)

set_option maxHeartbeats 1000000 in
theorem joined_no (s e : ByteArray) (thr opn : Bool) (s' e' : ByteArray) (thr' opn' : Bool) (w : World) (h : endsB e'.data.toList thr' opn' e.data.toList thr opn = false) :
    Calls Try.prog 24 #[.agg #[.string s, .string e, .bool thr, .bool opn], .agg #[.string s', .string e', .bool thr', .bool opn']] w
      fun en w' => en = .returned (.agg #[.string s, .string e, .bool thr, .bool opn]) ∧ Grown w w' := by
  go_enter Try.func24, Try.ntmps24
  go_wp2_with (go_at_call 27; refine (endsAfter_any _ _ _ _ _ _ _ _ _).mono ?_; rintro en w' ⟨rfl, rfl⟩)
  refine bodyPost_ret (v := .agg #[.string s, .string e, .bool thr, .bool opn]) (by simp [results, Try.results24, go_sem]) rfl ⟨rfl, ?_⟩
  repeat (first | exact Grown.refl _ | apply Grown.alloc)

set_option maxHeartbeats 400000 in
theorem zzReadTo_desc (s e : ByteArray) (thr opn : Bool) (k : ByteArray) (w : World) :
    Calls Try.prog 9 #[.string s, .string e, .bool thr, .bool opn, .string k, .int .i64 1] w fun en w' => en = .returned (.tuple #[.string k, .string e, .bool thr, .bool opn]) ∧ Grown w w' := by
  go_enter Try.func9, Try.ntmps9
  go_wp2_with (go_at_call 21; refine (readTo_desc _ _ _ _ _ _).mono ?_; rintro en w' ⟨rfl, hg⟩)
  go_quiet (fail)
  go_wp2
  refine bodyPost_ret (v := .tuple #[.string k, .string e, .bool thr, .bool opn]) (by simp [results, Try.results9, go_sem]) rfl ⟨rfl, ?_⟩
  repeat (first | exact hg | apply grown_drewN | apply Grown.alloc)

set_option maxHeartbeats 400000 in
theorem zzReadTo_asc (s e : ByteArray) (thr opn : Bool) (k : ByteArray) (o : Int) (ho : (o == 1) = false) (w : World) :
    Calls Try.prog 9 #[.string s, .string e, .bool thr, .bool opn, .string k, .int .i64 o] w fun en w' => en = .returned (.tuple #[.string s, .string k, .bool true, .bool false]) ∧ Grown w w' := by
  go_enter Try.func9, Try.ntmps9
  go_wp2_with (go_at_call 21; refine (readTo_asc _ _ _ _ _ _ (by assumption) _).mono ?_; rintro en w' ⟨rfl, hg⟩)
  go_quiet (fail)
  go_wp2
  refine bodyPost_ret (v := .tuple #[.string s, .string k, .bool true, .bool false]) (by simp [results, Try.results9, go_sem]) rfl ⟨rfl, ?_⟩
  repeat (first | exact hg | apply grown_drewN | apply Grown.alloc)

set_option maxHeartbeats 400000 in
theorem zzJoined_yes (s e : ByteArray) (thr opn : Bool) (s' e' : ByteArray) (thr' opn' : Bool) (h : endsB e'.data.toList thr' opn' e.data.toList thr opn = true) (w : World) :
    Calls Try.prog 15 #[.string s, .string e, .bool thr, .bool opn, .string s', .string e', .bool thr', .bool opn'] w fun en w' => en = .returned (.tuple #[.string s, .string e', .bool thr', .bool opn']) ∧ Grown w w' := by
  go_enter Try.func15, Try.ntmps15
  go_wp2_with (go_at_call 24; refine (joined_yes _ _ _ _ _ _ _ _ _ (by assumption)).mono ?_; rintro en w' ⟨rfl, hg⟩)
  go_quiet (fail)
  go_wp2
  refine bodyPost_ret (v := .tuple #[.string s, .string e', .bool thr', .bool opn']) (by simp [results, Try.results15, go_sem]) rfl ⟨rfl, ?_⟩
  repeat (first | exact hg | apply grown_drewN | apply Grown.alloc)

set_option maxHeartbeats 400000 in
theorem zzJoined_no (s e : ByteArray) (thr opn : Bool) (s' e' : ByteArray) (thr' opn' : Bool) (h : endsB e'.data.toList thr' opn' e.data.toList thr opn = false) (w : World) :
    Calls Try.prog 15 #[.string s, .string e, .bool thr, .bool opn, .string s', .string e', .bool thr', .bool opn'] w fun en w' => en = .returned (.tuple #[.string s, .string e, .bool thr, .bool opn]) ∧ Grown w w' := by
  go_enter Try.func15, Try.ntmps15
  go_wp2_with (go_at_call 24; refine (joined_no _ _ _ _ _ _ _ _ _ (by assumption)).mono ?_; rintro en w' ⟨rfl, hg⟩)
  go_quiet (fail)
  go_wp2
  refine bodyPost_ret (v := .tuple #[.string s, .string e, .bool thr, .bool opn]) (by simp [results, Try.results15, go_sem]) rfl ⟨rfl, ?_⟩
  repeat (first | exact hg | apply grown_drewN | apply Grown.alloc)

end Go.Proofs.Qxb6003782a
