/-
  The walk of FnMaxPersistenceIsLeastBoundFromZero.
-/
import Derived.Test.Qxb6003671aPlain
import Derived.Deep.RegionWith
namespace Go.Proofs.Qxb6003671a
open Go.RowKit
set_option linter.unusedVariables false

/-- Is m 0, or one of the first k? -/
def attB (p : Nat → Int) (m : Int) : Nat → Bool
  | 0 => m == 0
  | k + 1 => attB p m k || (p k == m)
theorem attB_of (p : Nat → Int) (m : Int) : ∀ n, (m = 0 ∨ ∃ k, k < n ∧ p k = m) → attB p m n = true
  | 0, h => by
    rcases h with h | ⟨k, hk, _⟩
    · simp [attB, h]
    · omega
  | n + 1, h => by
    rw [attB, Bool.or_eq_true]
    rcases h with h | ⟨k, hk, hp⟩
    · exact .inl (attB_of p m n (.inl h))
    · by_cases e : k = n
      · subst e; exact .inr (by simp [hp])
      · exact .inl (attB_of p m n (.inr ⟨k, by omega, hp⟩))

theorem max15_any (a b : Int) (w : World) : Calls Try.prog 15 #[.int .i64 a, .int .i64 b] w fun e w' => e = .returned (.int .i64 (if b < a then a else b)) ∧ w = w' := by
  by_cases h : b < a
  · rw [if_pos h]
    go_enter Try.func15, Try.ntmps15
    go_wp2
    go_ret
    exact ⟨rfl, rfl⟩
  · rw [if_neg h]
    go_enter Try.func15, Try.ntmps15
    go_wp2
    go_ret
    exact ⟨rfl, rfl⟩

set_option maxRecDepth 100000 in
set_option maxHeartbeats 4000000 in
theorem max_core (a0 a1 : Option Addr) (nP cP nF cF cut : Nat) (p : Nat → Int) (f : Nat → Bool) (w : World) (hnF : nF ≤ 65536) (hnP : nP ≤ 65536) (hsz : nF + 8 * nP ≤ 1048576) (hcut : cut ≤ nP)
    (hP : Cells w a0 nP (fun j => .int .i64 (p j))) (hF : Cells w a1 nF (fun j => .bool (f j))) :
    Calls Try.prog 4 #[.slice a0 nP cP, .slice a1 nF cF, .int .i64 cut] w fun e w' => e = .returned (.bool true) ∧ Below w.heap.size w w' := by
  go_enter Try.func4, Try.ntmps4
  go_wp2_with fail
  refine (zz13_any a0 a1 nP cP nF cF _ _).mono ?_
  rintro e w' ⟨r, rfl, rfl⟩
  cases r
  · go_wp2
    go_ret
    exact ⟨rfl, Below.refl _ _⟩
  go_wp2_with fail
  refine (copyInts_any a0 cP nP p _ (by omega) hP).mono ?_
  rintro e w1 ⟨aP, rfl, hP1, hb1⟩
  go_wp2_with fail
  refine (copyBools_any a1 cF nF f _ (by omega) (hF.later (Nat.le_refl _) hb1)).mono ?_
  rintro e w2 ⟨aF, rfl, hF2, hb2⟩
  have hS : St w w2 aF nF f aP nP p [] [] := ⟨hb1.trans (hb2.mono hb1.size), hF2, hP1.later (Nat.le_refl _) hb2, (fun x hx => by cases hx), (fun x hx => by cases hx)⟩
  clear hF2 hP1 hb1 hb2 hF hP w1
  go_wp2_with fail
  refine (victims0_any aF aP nF nF nP nP nP f p false _ hnP (by omega) (by omega) hS.F hS.P).mono ?_
  rintro e w3 ⟨ao3, cap3, rfl, hV, hb⟩
  replace hS := ((hS.later hb).addVic hV).addBox (.slice ao3 nP cap3)
  clear hV hb
  go_wp2_with fail
  refine (victims0_any aF aP nF nF nP nP cut f p false _ (by omega) (by omega) (by omega) hS.F hS.P).mono ?_
  rintro e w4 ⟨ao4, cap4, rfl, hV, hb⟩
  replace hS := ((hS.later hb).addVic hV).addBox (.slice ao4 cut cap4)
  clear hV hb
  go_wp2_with fail
  refine (victims_any aF aP nF nF nP nP cut nP f p false _ hcut hnP (by omega) (by omega) hS.F hS.P).mono ?_
  rintro e w5 ⟨ao5, cap5, rfl, hV, hb⟩
  replace hS := ((hS.later hb).addVic hV).addBox (.slice ao5 (nP - cut) cap5)
  clear hV hb
  go_wp2_with fail
  refine (victims0_any aF aP nF nF nP nP nP f p true _ hnP (by omega) (by omega) hS.F hS.P).mono ?_
  rintro e w6 ⟨ao6, cap6, rfl, hV, hb⟩
  replace hS := ((hS.later hb).addVic hV).addBox (.slice ao6 nP cap6)
  clear hV hb
  go_wp2_with fail
  refine (victims0_any aF aP nF nF nP nP nP f p false _ hnP (by omega) (by omega) hS.F hS.P).mono ?_
  rintro e w7 ⟨ao7, cap7, rfl, hV, hb⟩
  replace hS := hS.later hb
  go_wp2_with fail
  refine (reversed_any ao7 nP cap7 _ _ _ _ hnP hV).mono ?_
  clear hV hb
  rintro e w8 ⟨ao8, cap8, rfl, hV, hb⟩
  replace hS := (hS.later hb).addVic hV
  clear hV hb
  have B8 := hS.box (w3.heap.size, .slice ao3 nP cap3) (by simp)
  have l8 : w3.heap.size < w8.heap.size := B8.1
  have r8 := B8.2
  unfold resCells at r8
  clear B8
  go_wp2_with fail
  replace hS := (hS.addBox (.slice ao8 nP cap8)).addBox (.slice none 0 0)
  clear r8 l8
  refine (Max_any ao3 nP cap3 _ _ _ _ hnP (hS.vic _ (.tail _ (.tail _ (.tail _ (.tail _ (.head _))))))).mono ?_
  rintro e w10 ⟨rfl, hb⟩
  replace hS := hS.later hb
  clear hb
  have hge := mx_ge (fun j => persAt nP p (0 + j)) nP
  have hnn := mx_nonneg (fun j => persAt nP p (0 + j)) nP
  have hat := mx_at (fun j => persAt nP p (0 + j)) nP
  have hadd := mx_add (fun j => persAt nP p (0 + j)) cut (nP - cut)
  rw [show cut + (nP - cut) = nP by omega] at hadd
  have hright : mx (fun j => persAt nP p (0 + (cut + j))) (nP - cut) = mx (fun j => persAt nP p (cut + j)) (nP - cut) := mx_congr _ (fun k _ => by simp)
  rw [hright] at hadd
  have hrev := mx_rev nP (fun j => persAt nP p (0 + j))
  obtain ⟨m, em⟩ : ∃ c, c = mx (fun j => persAt nP p (0 + j)) nP := ⟨_, rfl⟩
  obtain ⟨ml, eml⟩ : ∃ c, c = mx (fun j => persAt nP p (0 + j)) cut := ⟨_, rfl⟩
  obtain ⟨mr, emr⟩ : ∃ c, c = mx (fun j => persAt nP p (cut + j)) (nP - cut) := ⟨_, rfl⟩
  have gl : ∀ W, Vics W ao4 cut (fun j => ((0 + j : Nat) : Int)) (fun j => flagAt nF f false (0 + j)) (fun j => persAt nP p (0 + j)) → Calls Try.prog 14 #[.agg #[.slice ao4 cut cap4, .int .i64 0, .int .i64 0, .int .i64 0, .int .i64 0, .int .i64 0, .int .i64 0, .int .i64 0, .int .i64 0, .int .i64 0, .int .i64 0]] W fun e w' => e = .returned (.int .i64 ml) ∧ Below W.heap.size W w' := fun W hV => eml ▸ Max_any ao4 cut cap4 _ _ _ W (by omega) hV
  have gr : ∀ W, Vics W ao5 (nP - cut) (fun j => ((cut + j : Nat) : Int)) (fun j => flagAt nF f false (cut + j)) (fun j => persAt nP p (cut + j)) → Calls Try.prog 14 #[.agg #[.slice ao5 (nP - cut) cap5, .int .i64 0, .int .i64 0, .int .i64 0, .int .i64 0, .int .i64 0, .int .i64 0, .int .i64 0, .int .i64 0, .int .i64 0, .int .i64 0]] W fun e w' => e = .returned (.int .i64 mr) ∧ Below W.heap.size W w' := fun W hV => emr ▸ Max_any ao5 (nP - cut) cap5 _ _ _ W (by omega) hV
  have gf : ∀ W, Vics W ao6 nP (fun j => ((0 + j : Nat) : Int)) (fun j => flagAt nF f true (0 + j)) (fun j => persAt nP p (0 + j)) → Calls Try.prog 14 #[.agg #[.slice ao6 nP cap6, .int .i64 0, .int .i64 0, .int .i64 0, .int .i64 0, .int .i64 0, .int .i64 0, .int .i64 0, .int .i64 0, .int .i64 0, .int .i64 0]] W fun e w' => e = .returned (.int .i64 m) ∧ Below W.heap.size W w' := fun W hV => em ▸ Max_any ao6 nP cap6 _ _ _ W (by omega) hV
  have gv : ∀ W, Vics W ao8 nP (fun j => ((0 + (nP - 1 - j) : Nat) : Int)) (fun j => flagAt nF f false (0 + (nP - 1 - j))) (fun j => persAt nP p (0 + (nP - 1 - j))) → Calls Try.prog 14 #[.agg #[.slice ao8 nP cap8, .int .i64 0, .int .i64 0, .int .i64 0, .int .i64 0, .int .i64 0, .int .i64 0, .int .i64 0, .int .i64 0, .int .i64 0, .int .i64 0]] W fun e w' => e = .returned (.int .i64 m) ∧ Below W.heap.size W w' := fun W hV => em.trans hrev.symm ▸ Max_any ao8 nP cap8 _ _ _ W (by omega) hV
  have ge : ∀ W, Calls Try.prog 14 #[.agg #[.slice none 0 0, .int .i64 0, .int .i64 0, .int .i64 0, .int .i64 0, .int .i64 0, .int .i64 0, .int .i64 0, .int .i64 0, .int .i64 0, .int .i64 0]] W fun e w' => e = .returned (.int .i64 0) ∧ Below W.heap.size W w' := fun W => Max_any none 0 0 (fun _ => 0) (fun _ => false) (fun _ => 0) W (by omega) (fun h => by omega)
  rw [← em, ← eml, ← emr] at hadd
  have gm : ∀ W, Calls Try.prog 15 #[.int .i64 ml, .int .i64 mr] W fun e w' => e = .returned (.int .i64 m) ∧ W = w' := fun W => hadd ▸ max15_any ml mr W
  rw [← em] at hge hnn hat
  rw [← em]
  have hpk : ∀ k, k < nP → p k ≤ m := fun k hk => by have := hge k hk; simpa [persAt, hk] using this
  have HA : Hid (attB p m nP = true) := attB_of p m nP (by
    rcases hat with h | ⟨k, hk, h⟩
    · exact .inl h
    · exact .inr ⟨k, hk, by simpa [persAt, hk] using h⟩)
  have HPK : Hid (∀ k, k < nP → p k ≤ m) := hpk
  clear hpk hge hat hadd hrev hright em eml emr
  go_wp2_with fail
  go_loop [15, 16] (fun va vi => ∃ k : Nat, k ≤ nP ∧ vi = .int .i64 k ∧ va = .bool (attB p m k)) (fun _ vi => nP - (intOf vi).toNat)
  case atStart => exact ⟨0, Nat.zero_le _, rfl, rfl⟩
  case round =>
    obtain ⟨k, hk, rfl, rfl⟩ := hrel
    by_cases hlt : k < nP
    · have hlt' : (k : Int) < (nP : Int) := by omega
      obtain ⟨g, o, eg, hg, hc⟩ := hS.P (by omega)
      subst eg
      have hck := hc k hlt
      have hle := HPK.out k hlt
      have HT : Hid (attB p m (k + 1) = (attB p m k || (p k == m))) := rfl
      clear hc hS gl gr gf gv ge gm HPK HA
      generalize attB p m k = b at HT ⊢
      by_cases hm : p k = m
      · have hm' : (p k == m) = true := by simpa using hm
        have HT2 : Hid (attB p m (k + 1) = true) := by have h := HT.out; rw [hm'] at h; show _ = _; simpa using h
        have HM : Hid (p k = m) := hm
        clear HT hm
        go_wp2
        go_round
        case rel => exact ⟨k + 1, by omega, by go_num, by rw [HT2.out]⟩
        case measure => simp [intOf]; omega
      · have hm' : (p k == m) = false := by simpa using hm
        have HT2 : Hid (attB p m (k + 1) = b) := by have h := HT.out; rw [hm'] at h; show _ = _; simpa using h
        clear HT hm
        go_wp2
        go_round
        case rel => exact ⟨k + 1, by omega, by go_num, by rw [HT2.out]⟩
        case measure => simp [intOf]; omega
    · have hkn : nP = k := by omega
      subst hkn
      have hT : attB p m nP = true := HA.out
      clear HA HPK
      have r4 : ∀ j, w10.cell? ⟨w4.heap.size, j, none⟩ = (#[.slice ao4 cut cap4, .int .i64 0, .int .i64 0, .int .i64 0, .int .i64 0, .int .i64 0, .int .i64 0, .int .i64 0, .int .i64 0, .int .i64 0, .int .i64 0] : Array Value)[j]? := by have h := (hS.box (w4.heap.size, .slice ao4 cut cap4) (by simp)).2; unfold resCells at h; exact h
      have r5 : ∀ j, w10.cell? ⟨w5.heap.size, j, none⟩ = (#[.slice ao5 (nP - cut) cap5, .int .i64 0, .int .i64 0, .int .i64 0, .int .i64 0, .int .i64 0, .int .i64 0, .int .i64 0, .int .i64 0, .int .i64 0, .int .i64 0] : Array Value)[j]? := by have h := (hS.box (w5.heap.size, .slice ao5 (nP - cut) cap5) (by simp)).2; unfold resCells at h; exact h
      go_wp2_with fail
      go_region_with (first | (go_at_call_of 14 (Value.slice ao4 cut cap4); refine (gl _ (by exact hS.vic _ (.tail _ (.tail _ (.tail _ (.head _)))))).mono ?_; rintro e wx ⟨rfl, hb⟩; replace hS := St.later (by first | exact hS | exact hS.drew | exact hS.drew.drew) hb; clear hb; have r4 : ∀ j, wx.cell? ⟨w4.heap.size, j, none⟩ = (#[.slice ao4 cut cap4, .int .i64 0, .int .i64 0, .int .i64 0, .int .i64 0, .int .i64 0, .int .i64 0, .int .i64 0, .int .i64 0, .int .i64 0, .int .i64 0] : Array Value)[j]? := (by have h := (hS.box (w4.heap.size, .slice ao4 cut cap4) (by simp)).2; unfold resCells at h; exact h); have r5 : ∀ j, wx.cell? ⟨w5.heap.size, j, none⟩ = (#[.slice ao5 (nP - cut) cap5, .int .i64 0, .int .i64 0, .int .i64 0, .int .i64 0, .int .i64 0, .int .i64 0, .int .i64 0, .int .i64 0, .int .i64 0, .int .i64 0] : Array Value)[j]? := (by have h := (hS.box (w5.heap.size, .slice ao5 (nP - cut) cap5) (by simp)).2; unfold resCells at h; exact h)) | (go_at_call_of 14 (Value.slice ao5 (nP - cut) cap5); refine (gr _ (by exact hS.vic _ (.tail _ (.tail _ (.head _))))).mono ?_; rintro e wx ⟨rfl, hb⟩; replace hS := St.later (by first | exact hS | exact hS.drew | exact hS.drew.drew) hb; clear hb; have r4 : ∀ j, wx.cell? ⟨w4.heap.size, j, none⟩ = (#[.slice ao4 cut cap4, .int .i64 0, .int .i64 0, .int .i64 0, .int .i64 0, .int .i64 0, .int .i64 0, .int .i64 0, .int .i64 0, .int .i64 0, .int .i64 0] : Array Value)[j]? := (by have h := (hS.box (w4.heap.size, .slice ao4 cut cap4) (by simp)).2; unfold resCells at h; exact h); have r5 : ∀ j, wx.cell? ⟨w5.heap.size, j, none⟩ = (#[.slice ao5 (nP - cut) cap5, .int .i64 0, .int .i64 0, .int .i64 0, .int .i64 0, .int .i64 0, .int .i64 0, .int .i64 0, .int .i64 0, .int .i64 0, .int .i64 0] : Array Value)[j]? := (by have h := (hS.box (w5.heap.size, .slice ao5 (nP - cut) cap5) (by simp)).2; unfold resCells at h; exact h)) | (go_at_call 15; refine (gm _).mono ?_; rintro e wm ⟨rfl, rfl⟩))
      all_goals
        clear r4 r5
        have r6 : ∀ j, wx.cell? ⟨w6.heap.size, j, none⟩ = (#[.slice ao6 nP cap6, .int .i64 0, .int .i64 0, .int .i64 0, .int .i64 0, .int .i64 0, .int .i64 0, .int .i64 0, .int .i64 0, .int .i64 0, .int .i64 0] : Array Value)[j]? := by have h := (hS.box (w6.heap.size, .slice ao6 nP cap6) (by simp)).2; unfold resCells at h; exact h
        clear gl gr gm
        go_wp2_with fail
        refine (gf _ (by exact hS.vic _ (.tail _ (.head _)))).mono ?_
        clear r6 gf
        rintro e wy ⟨rfl, hb⟩
        replace hS := hS.later hb
        clear hb
        have r8 : ∀ j, wy.cell? ⟨w8.heap.size, j, none⟩ = (#[.slice ao8 nP cap8, .int .i64 0, .int .i64 0, .int .i64 0, .int .i64 0, .int .i64 0, .int .i64 0, .int .i64 0, .int .i64 0, .int .i64 0, .int .i64 0] : Array Value)[j]? := by have h := (hS.box (w8.heap.size, .slice ao8 nP cap8) (by simp)).2; unfold resCells at h; exact h
        go_wp2_with fail
        refine (gv _ (by exact hS.vic _ (.head _))).mono ?_
        clear r8 gv
        rintro e wu ⟨rfl, hb⟩
        replace hS := hS.later hb
        clear hb
        have r14 : ∀ j, wu.cell? ⟨w8.heap.size + 1, j, none⟩ = (#[.slice none 0 0, .int .i64 0, .int .i64 0, .int .i64 0, .int .i64 0, .int .i64 0, .int .i64 0, .int .i64 0, .int .i64 0, .int .i64 0, .int .i64 0] : Array Value)[j]? := by
          have h := (hS.box (w8.heap.size + 1, .slice none 0 0) (by simp)).2
          unfold resCells at h
          exact h
        go_wp2_with fail
        refine (ge _).mono ?_
        clear r14 ge
        rintro e wt ⟨rfl, hb⟩
        replace hS := hS.later hb
        clear hb
        go_wp2
        go_ret
        exact ⟨rfl, hS.bel⟩

theorem max_early (a0 a1 : Option Addr) (nP cP nF cF : Nat) (cut : Int) (w : World) (m0 : nP ≤ maxLen) (m1 : nF ≤ maxLen) (h : ¬ (nF ≤ 65536 ∧ nP ≤ 65536 ∧ nF + 8 * nP ≤ 1048576 ∧ 0 ≤ cut ∧ cut ≤ nP)) :
    Calls Try.prog 4 #[.slice a0 nP cP, .slice a1 nF cF, .int .i64 cut] w fun e w' => e = .returned (.bool true) ∧ Below w.heap.size w w' := by
  have hz := fun w => zz13_any a0 a1 nP cP nF cF cut w
  unfold maxLen at m0 m1
  by_cases h1 : nF ≤ 65536
  · by_cases h2 : nP ≤ 65536
    · by_cases h3 : nF + 8 * nP ≤ 1048576
      · by_cases h4 : 0 ≤ cut
        · have h5 : ¬ cut ≤ nP := fun h5 => h ⟨h1, h2, h3, h4, h5⟩
          have h5' : (nP : Int) < cut := by omega
          clear h h5
          go_enter Try.func4, Try.ntmps4
          go_wp2_with (go_at_call 13; refine (hz _).mono ?_; rintro e w' ⟨r, rfl, rfl⟩)
          all_goals (go_ret; exact ⟨rfl, Below.refl _ _⟩)
        · have h4' : cut < 0 := by omega
          clear h h4
          go_enter Try.func4, Try.ntmps4
          go_wp2_with (go_at_call 13; refine (hz _).mono ?_; rintro e w' ⟨r, rfl, rfl⟩)
          all_goals (go_ret; exact ⟨rfl, Below.refl _ _⟩)
      · have h3' : (1048576 : Int) < (nF : Int) + 8 * (nP : Int) := by omega
        clear h h3
        go_enter Try.func4, Try.ntmps4
        go_wp2_with (go_at_call 13; refine (hz _).mono ?_; rintro e w' ⟨r, rfl, rfl⟩)
        all_goals (go_ret; exact ⟨rfl, Below.refl _ _⟩)
    · have h2' : (65536 : Int) < (nP : Int) := by omega
      clear h h2
      go_enter Try.func4, Try.ntmps4
      go_wp2_with (go_at_call 13; refine (hz _).mono ?_; rintro e w' ⟨r, rfl, rfl⟩)
      all_goals (go_ret; exact ⟨rfl, Below.refl _ _⟩)
  · have h1' : (65536 : Int) < (nF : Int) := by omega
    clear h h1
    go_enter Try.func4, Try.ntmps4
    go_wp2_with (go_at_call 13; refine (hz _).mono ?_; rintro e w' ⟨r, rfl, rfl⟩)
    all_goals (go_ret; exact ⟨rfl, Below.refl _ _⟩)

theorem max_top (a0 a1 : Option Addr) (nP cP nF cF : Nat) (p : Nat → Int) (f : Nat → Bool) (cut : Int) (w : World) (m0 : nP ≤ maxLen) (m1 : nF ≤ maxLen)
    (hP : Cells w a0 nP (fun j => .int .i64 (p j))) (hF : Cells w a1 nF (fun j => .bool (f j))) :
    Calls Try.prog 4 #[.slice a0 nP cP, .slice a1 nF cF, .int .i64 cut] w fun e w' => e = .returned (.bool true) ∧ Below w.heap.size w w' := by
  by_cases h : nF ≤ 65536 ∧ nP ≤ 65536 ∧ nF + 8 * nP ≤ 1048576 ∧ 0 ≤ cut ∧ cut ≤ nP
  · obtain ⟨h1, h2, h3, h4, h5⟩ := h
    obtain ⟨n, rfl⟩ := Int.eq_ofNat_of_zero_le h4
    exact max_core a0 a1 nP cP nF cF n p f w h1 h2 h3 (by omega) hP hF
  · exact max_early a0 a1 nP cP nF cF cut w m0 m1 h
end Go.Proofs.Qxb6003671a
