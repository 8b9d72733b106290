/-
  The walk of FnFalseCountsMarkedVictimsAdditively.
-/
import Derived.Test.Qxb6003671aPlain
import Derived.Deep.RegionWith
namespace Go.Proofs.Qxb6003671a
open Go.RowKit
set_option linter.unusedVariables false

set_option maxRecDepth 100000 in
set_option maxHeartbeats 4000000 in
theorem false_core (a0 a1 : Option Addr) (nF cF nP cP cut : Nat) (f : Nat → Bool) (p : Nat → Int) (w : World) (hnF : nF ≤ 65536) (hnP : nP ≤ 65536) (hsz : nF + 8 * nP ≤ 1048576) (hcut : cut ≤ nF)
    (hF : Cells w a0 nF (fun j => .bool (f j))) (hP : Cells w a1 nP (fun j => .int .i64 (p j))) :
    Calls Try.prog 3 #[.slice a0 nF cF, .slice a1 nP cP, .int .i64 cut] w fun e w' => e = .returned (.bool true) ∧ Below w.heap.size w w' := by
  go_enter Try.func3, Try.ntmps3
  go_wp2_with fail
  refine (zz7_any a0 a1 nF cF nP cP _ _).mono ?_
  rintro e w' ⟨r, rfl, rfl⟩
  cases r
  · go_wp2
    go_ret
    exact ⟨rfl, Below.refl _ _⟩
  go_wp2_with fail
  refine (copyBools_any a0 cF nF f _ (by omega) hF).mono ?_
  rintro e w1 ⟨aF, rfl, hF1, hb1⟩
  go_wp2_with fail
  refine (copyInts_any a1 cP nP p _ (by omega) (hP.later (Nat.le_refl _) hb1)).mono ?_
  rintro e w2 ⟨aP, rfl, hP2, hb2⟩
  have hS : St w w2 aF nF f aP nP p [] [] := ⟨hb1.trans (hb2.mono hb1.size), hF1.later (Nat.le_refl _) hb2, hP2, (fun x hx => by cases hx), (fun x hx => by cases hx)⟩
  clear hF1 hP2 hb1 hb2 hF hP w1
  go_wp2_with fail
  refine (victims0_any aF aP nF nF nP nP nF f p false _ hnF (by omega) (by omega) hS.F hS.P).mono ?_
  rintro e w3 ⟨ao3, cap3, rfl, hV, hb⟩
  replace hS := ((hS.later hb).addVic hV).addBox (.slice ao3 nF cap3)
  clear hV hb
  go_wp2_with fail
  refine (victims0_any aF aP nF nF nP nP cut f p false _ (by omega) (by omega) (by omega) hS.F hS.P).mono ?_
  rintro e w4 ⟨ao4, cap4, rfl, hV, hb⟩
  replace hS := ((hS.later hb).addVic hV).addBox (.slice ao4 cut cap4)
  clear hV hb
  go_wp2_with fail
  refine (victims_any aF aP nF nF nP nP cut nF f p false _ hcut hnF (by omega) (by omega) hS.F hS.P).mono ?_
  rintro e w5 ⟨ao5, cap5, rfl, hV, hb⟩
  replace hS := ((hS.later hb).addVic hV).addBox (.slice ao5 (nF - cut) cap5)
  clear hV hb
  go_wp2_with fail
  refine (victims0_any aF aP nF nF nP nP nF f p true _ hnF (by omega) (by omega) hS.F hS.P).mono ?_
  rintro e w6 ⟨ao6, cap6, rfl, hV, hb⟩
  replace hS := ((hS.later hb).addVic hV).addBox (.slice ao6 nF cap6)
  clear hV hb
  go_wp2_with fail
  refine (victims0_any aF none nF nF 0 0 nF f (fun _ => 0) false _ hnF (by omega) (by omega) hS.F (fun h => by omega)).mono ?_
  rintro e w7 ⟨ao7, cap7, rfl, hV, hb⟩
  replace hS := ((hS.later hb).addVic hV).addBox (.slice ao7 nF cap7)
  clear hV hb
  go_wp2_with fail
  refine (victims0_any aF aP nF nF nP nP nF f p false _ hnF (by omega) (by omega) hS.F hS.P).mono ?_
  rintro e w8 ⟨ao8, cap8, rfl, hV, hb⟩
  replace hS := hS.later hb
  go_wp2_with fail
  refine (reversed_any ao8 nF cap8 _ _ _ _ hnF hV).mono ?_
  clear hV hb
  rintro e w9 ⟨ao9, cap9, rfl, hV, hb⟩
  replace hS := (hS.later hb).addVic hV
  clear hV hb
  have B8 := hS.box (w3.heap.size, .slice ao3 nF cap3) (by simp)
  have l8 : w3.heap.size < w9.heap.size := B8.1
  have r8 := B8.2
  unfold resCells at r8
  clear B8
  go_wp2_with fail
  replace hS := (hS.addBox (.slice ao9 nF cap9)).addBox (.slice none 0 0)
  clear r8 l8
  refine (False_any ao3 nF cap3 _ _ _ _ hnF (hS.vic _ (.tail _ (.tail _ (.tail _ (.tail _ (.tail _ (.head _)))))))).mono ?_
  rintro e w10 ⟨rfl, hb⟩
  replace hS := hS.later hb
  clear hb
  have hcl := cnt_le (fun j => flagAt nF f false (0 + j)) nF
  have hadd := cnt_add (fun j => flagAt nF f false (0 + j)) cut (nF - cut)
  rw [show cut + (nF - cut) = nF by omega] at hadd
  have hright : cnt (fun j => flagAt nF f false (0 + (cut + j))) (nF - cut) = cnt (fun j => flagAt nF f false (cut + j)) (nF - cut) := cnt_congr _ (fun k _ => by simp)
  rw [hright] at hadd
  have hflip : cnt (fun j => flagAt nF f true (0 + j)) nF + cnt (fun j => flagAt nF f false (0 + j)) nF = nF := by
    rw [← cnt_congr (fb := fun j => !(flagAt nF f false (0 + j))) nF (fun k _ => by simp [flagAt])]
    exact cnt_not _ nF
  have hrev := cnt_rev nF (fun j => flagAt nF f false (0 + j))
  obtain ⟨cw, ecw⟩ : ∃ c, c = cnt (fun j => flagAt nF f false (0 + j)) nF := ⟨_, rfl⟩
  obtain ⟨cl, ecl⟩ : ∃ c, c = cnt (fun j => flagAt nF f false (0 + j)) cut := ⟨_, rfl⟩
  obtain ⟨cr, ecr⟩ : ∃ c, c = cnt (fun j => flagAt nF f false (cut + j)) (nF - cut) := ⟨_, rfl⟩
  obtain ⟨cf, ecf⟩ : ∃ c, c = cnt (fun j => flagAt nF f true (0 + j)) nF := ⟨_, rfl⟩
  have gl : ∀ W, Vics W ao4 cut (fun j => ((0 + j : Nat) : Int)) (fun j => flagAt nF f false (0 + j)) (fun j => persAt nP p (0 + j)) → Calls Try.prog 12 #[.agg #[.slice ao4 cut cap4, .int .i64 0, .int .i64 0, .int .i64 0, .int .i64 0, .int .i64 0, .int .i64 0, .int .i64 0, .int .i64 0, .int .i64 0, .int .i64 0]] W fun e w' => e = .returned (.int .i64 (cl : Int)) ∧ Below W.heap.size W w' := fun W hV => ecl ▸ False_any ao4 cut cap4 _ _ _ W (by omega) hV
  have gr : ∀ W, Vics W ao5 (nF - cut) (fun j => ((cut + j : Nat) : Int)) (fun j => flagAt nF f false (cut + j)) (fun j => persAt nP p (cut + j)) → Calls Try.prog 12 #[.agg #[.slice ao5 (nF - cut) cap5, .int .i64 0, .int .i64 0, .int .i64 0, .int .i64 0, .int .i64 0, .int .i64 0, .int .i64 0, .int .i64 0, .int .i64 0, .int .i64 0]] W fun e w' => e = .returned (.int .i64 (cr : Int)) ∧ Below W.heap.size W w' := fun W hV => ecr ▸ False_any ao5 (nF - cut) cap5 _ _ _ W (by omega) hV
  have gf : ∀ W, Vics W ao6 nF (fun j => ((0 + j : Nat) : Int)) (fun j => flagAt nF f true (0 + j)) (fun j => persAt nP p (0 + j)) → Calls Try.prog 12 #[.agg #[.slice ao6 nF cap6, .int .i64 0, .int .i64 0, .int .i64 0, .int .i64 0, .int .i64 0, .int .i64 0, .int .i64 0, .int .i64 0, .int .i64 0, .int .i64 0]] W fun e w' => e = .returned (.int .i64 (cf : Int)) ∧ Below W.heap.size W w' := fun W hV => ecf ▸ False_any ao6 nF cap6 _ _ _ W hnF hV
  have gn : ∀ W, Vics W ao7 nF (fun j => ((0 + j : Nat) : Int)) (fun j => flagAt nF f false (0 + j)) (fun j => persAt 0 (fun _ => 0) (0 + j)) → Calls Try.prog 12 #[.agg #[.slice ao7 nF cap7, .int .i64 0, .int .i64 0, .int .i64 0, .int .i64 0, .int .i64 0, .int .i64 0, .int .i64 0, .int .i64 0, .int .i64 0, .int .i64 0]] W fun e w' => e = .returned (.int .i64 (cw : Int)) ∧ Below W.heap.size W w' := fun W hV => ecw ▸ False_any ao7 nF cap7 _ _ _ W hnF hV
  have gv : ∀ W, Vics W ao9 nF (fun j => ((0 + (nF - 1 - j) : Nat) : Int)) (fun j => flagAt nF f false (0 + (nF - 1 - j))) (fun j => persAt nP p (0 + (nF - 1 - j))) → Calls Try.prog 12 #[.agg #[.slice ao9 nF cap9, .int .i64 0, .int .i64 0, .int .i64 0, .int .i64 0, .int .i64 0, .int .i64 0, .int .i64 0, .int .i64 0, .int .i64 0, .int .i64 0]] W fun e w' => e = .returned (.int .i64 (cw : Int)) ∧ Below W.heap.size W w' := fun W hV => ecw.trans hrev.symm ▸ False_any ao9 nF cap9 _ _ _ W hnF hV
  have ge : ∀ W, Calls Try.prog 12 #[.agg #[.slice none 0 0, .int .i64 0, .int .i64 0, .int .i64 0, .int .i64 0, .int .i64 0, .int .i64 0, .int .i64 0, .int .i64 0, .int .i64 0, .int .i64 0]] W fun e w' => e = .returned (.int .i64 0) ∧ Below W.heap.size W w' := fun W => False_any none 0 0 (fun _ => 0) (fun _ => false) (fun _ => 0) W (by omega) (fun h => by omega)
  rw [← ecw, ← ecl, ← ecr] at hadd
  rw [← ecw] at hcl hrev
  rw [← ecf, ← ecw] at hflip
  rw [← ecw]
  have hA : (IntKind.i64.wrap ((cl : Int) + (cr : Int)) != (cw : Int)) = false := by
    have e : IntKind.i64.wrap ((cl : Int) + (cr : Int)) = (cl : Int) + (cr : Int) := by rw [IntKind.wrap_i64]; omega
    rw [e]
    simp
    omega
  have hB : ((cf : Int) != (nF : Int) - (cw : Int)) = false := by simp; omega
  have bl : cl ≤ 65536 := by omega
  have br : cr ≤ 65536 := by omega
  clear hadd hflip hrev hright ecw ecl ecr ecf
  have r4 : ∀ j, w10.cell? ⟨w4.heap.size, j, none⟩ = (#[.slice ao4 cut cap4, .int .i64 0, .int .i64 0, .int .i64 0, .int .i64 0, .int .i64 0, .int .i64 0, .int .i64 0, .int .i64 0, .int .i64 0, .int .i64 0] : Array Value)[j]? := by have h := (hS.box (w4.heap.size, .slice ao4 cut cap4) (by simp)).2; unfold resCells at h; exact h
  have r5 : ∀ j, w10.cell? ⟨w5.heap.size, j, none⟩ = (#[.slice ao5 (nF - cut) cap5, .int .i64 0, .int .i64 0, .int .i64 0, .int .i64 0, .int .i64 0, .int .i64 0, .int .i64 0, .int .i64 0, .int .i64 0, .int .i64 0] : Array Value)[j]? := by have h := (hS.box (w5.heap.size, .slice ao5 (nF - cut) cap5) (by simp)).2; unfold resCells at h; exact h
  go_wp2_with fail
  go_region_with (first | (go_at_call_of 12 (Value.slice ao4 cut cap4); refine (gl _ (by exact hS.vic _ (.tail _ (.tail _ (.tail _ (.tail _ (.head _))))))).mono ?_; rintro e wx ⟨rfl, hb⟩; replace hS := St.later (by first | exact hS | exact hS.drew | exact hS.drew.drew) hb; clear hb; have r4 : ∀ j, wx.cell? ⟨w4.heap.size, j, none⟩ = (#[.slice ao4 cut cap4, .int .i64 0, .int .i64 0, .int .i64 0, .int .i64 0, .int .i64 0, .int .i64 0, .int .i64 0, .int .i64 0, .int .i64 0, .int .i64 0] : Array Value)[j]? := (by have h := (hS.box (w4.heap.size, .slice ao4 cut cap4) (by simp)).2; unfold resCells at h; exact h); have r5 : ∀ j, wx.cell? ⟨w5.heap.size, j, none⟩ = (#[.slice ao5 (nF - cut) cap5, .int .i64 0, .int .i64 0, .int .i64 0, .int .i64 0, .int .i64 0, .int .i64 0, .int .i64 0, .int .i64 0, .int .i64 0, .int .i64 0] : Array Value)[j]? := (by have h := (hS.box (w5.heap.size, .slice ao5 (nF - cut) cap5) (by simp)).2; unfold resCells at h; exact h)) | (go_at_call_of 12 (Value.slice ao5 (nF - cut) cap5); refine (gr _ (by exact hS.vic _ (.tail _ (.tail _ (.tail _ (.head _)))))).mono ?_; rintro e wx ⟨rfl, hb⟩; replace hS := St.later (by first | exact hS | exact hS.drew | exact hS.drew.drew) hb; clear hb; have r4 : ∀ j, wx.cell? ⟨w4.heap.size, j, none⟩ = (#[.slice ao4 cut cap4, .int .i64 0, .int .i64 0, .int .i64 0, .int .i64 0, .int .i64 0, .int .i64 0, .int .i64 0, .int .i64 0, .int .i64 0, .int .i64 0] : Array Value)[j]? := (by have h := (hS.box (w4.heap.size, .slice ao4 cut cap4) (by simp)).2; unfold resCells at h; exact h); have r5 : ∀ j, wx.cell? ⟨w5.heap.size, j, none⟩ = (#[.slice ao5 (nF - cut) cap5, .int .i64 0, .int .i64 0, .int .i64 0, .int .i64 0, .int .i64 0, .int .i64 0, .int .i64 0, .int .i64 0, .int .i64 0, .int .i64 0] : Array Value)[j]? := (by have h := (hS.box (w5.heap.size, .slice ao5 (nF - cut) cap5) (by simp)).2; unfold resCells at h; exact h)))
  all_goals
    clear r4 r5
    have r6 : ∀ j, wx.cell? ⟨w6.heap.size, j, none⟩ = (#[.slice ao6 nF cap6, .int .i64 0, .int .i64 0, .int .i64 0, .int .i64 0, .int .i64 0, .int .i64 0, .int .i64 0, .int .i64 0, .int .i64 0, .int .i64 0] : Array Value)[j]? := by have h := (hS.box (w6.heap.size, .slice ao6 nF cap6) (by simp)).2; unfold resCells at h; exact h
    clear gl gr
    go_wp2_with fail
    refine (gf _ (by exact hS.vic _ (.tail _ (.tail _ (.head _))))).mono ?_
    clear r6 gf
    rintro e wy ⟨rfl, hb⟩
    replace hS := hS.later hb
    clear hb
    have r7 : ∀ j, wy.cell? ⟨w7.heap.size, j, none⟩ = (#[.slice ao7 nF cap7, .int .i64 0, .int .i64 0, .int .i64 0, .int .i64 0, .int .i64 0, .int .i64 0, .int .i64 0, .int .i64 0, .int .i64 0, .int .i64 0] : Array Value)[j]? := by have h := (hS.box (w7.heap.size, .slice ao7 nF cap7) (by simp)).2; unfold resCells at h; exact h
    go_wp2_with fail
    refine (gn _ (by exact hS.vic _ (.tail _ (.head _)))).mono ?_
    clear r7 gn
    rintro e wz ⟨rfl, hb⟩
    replace hS := hS.later hb
    clear hb
    have r9 : ∀ j, wz.cell? ⟨w9.heap.size, j, none⟩ = (#[.slice ao9 nF cap9, .int .i64 0, .int .i64 0, .int .i64 0, .int .i64 0, .int .i64 0, .int .i64 0, .int .i64 0, .int .i64 0, .int .i64 0, .int .i64 0] : Array Value)[j]? := by have h := (hS.box (w9.heap.size, .slice ao9 nF cap9) (by simp)).2; unfold resCells at h; exact h
    go_wp2_with fail
    refine (gv _ (by exact hS.vic _ (.head _))).mono ?_
    clear r9 gv
    rintro e wu ⟨rfl, hb⟩
    replace hS := hS.later hb
    clear hb
    have r14 : ∀ j, wu.cell? ⟨w9.heap.size + 1, j, none⟩ = (#[.slice none 0 0, .int .i64 0, .int .i64 0, .int .i64 0, .int .i64 0, .int .i64 0, .int .i64 0, .int .i64 0, .int .i64 0, .int .i64 0, .int .i64 0] : Array Value)[j]? := by
      have h := (hS.box (w9.heap.size + 1, .slice none 0 0) (by simp)).2
      unfold resCells at h
      exact h
    go_wp2_with fail
    refine (ge _).mono ?_
    clear r14 ge
    rintro e wt ⟨rfl, hb⟩
    replace hS := hS.later hb
    clear hb
    go_wp2
    go_ret
    exact ⟨rfl, hS.bel⟩
end Go.Proofs.Qxb6003671a
