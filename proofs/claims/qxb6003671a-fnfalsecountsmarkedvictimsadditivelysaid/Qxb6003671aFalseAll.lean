/-
  FnFalseCountsMarkedVictimsAdditively at every input.
-/
import Derived.Test.Qxb6003671aFalseTop
namespace Go.Proofs.Qxb6003671a
open Go.RowKit
set_option linter.unusedVariables false

theorem false_early (a0 a1 : Option Addr) (nF cF nP cP : Nat) (cut : Int) (w : World) (m0 : nF ≤ maxLen) (m1 : nP ≤ maxLen) (h : ¬ (nF ≤ 65536 ∧ nP ≤ 65536 ∧ nF + 8 * nP ≤ 1048576 ∧ 0 ≤ cut ∧ cut ≤ nF)) :
    Calls Try.prog 3 #[.slice a0 nF cF, .slice a1 nP cP, .int .i64 cut] w fun e w' => e = .returned (.bool true) ∧ Below w.heap.size w w' := by
  have hz := fun w => zz7_any a0 a1 nF cF nP cP cut w
  unfold maxLen at m0 m1
  by_cases h1 : nF ≤ 65536
  · by_cases h2 : nP ≤ 65536
    · by_cases h3 : nF + 8 * nP ≤ 1048576
      · by_cases h4 : 0 ≤ cut
        · have h5 : ¬ cut ≤ nF := fun h5 => h ⟨h1, h2, h3, h4, h5⟩
          have h5' : (nF : Int) < cut := by omega
          clear h h5
          go_enter Try.func3, Try.ntmps3
          go_wp2_with (go_at_call 7; refine (hz _).mono ?_; rintro e w' ⟨r, rfl, rfl⟩)
          all_goals (go_ret; exact ⟨rfl, Below.refl _ _⟩)
        · have h4' : cut < 0 := by omega
          clear h h4
          go_enter Try.func3, Try.ntmps3
          go_wp2_with (go_at_call 7; refine (hz _).mono ?_; rintro e w' ⟨r, rfl, rfl⟩)
          all_goals (go_ret; exact ⟨rfl, Below.refl _ _⟩)
      · have h3' : (1048576 : Int) < (nF : Int) + 8 * (nP : Int) := by omega
        clear h h3
        go_enter Try.func3, Try.ntmps3
        go_wp2_with (go_at_call 7; refine (hz _).mono ?_; rintro e w' ⟨r, rfl, rfl⟩)
        all_goals (go_ret; exact ⟨rfl, Below.refl _ _⟩)
    · have h2' : (65536 : Int) < (nP : Int) := by omega
      clear h h2
      go_enter Try.func3, Try.ntmps3
      go_wp2_with (go_at_call 7; refine (hz _).mono ?_; rintro e w' ⟨r, rfl, rfl⟩)
      all_goals (go_ret; exact ⟨rfl, Below.refl _ _⟩)
  · have h1' : (65536 : Int) < (nF : Int) := by omega
    clear h h1
    go_enter Try.func3, Try.ntmps3
    go_wp2_with (go_at_call 7; refine (hz _).mono ?_; rintro e w' ⟨r, rfl, rfl⟩)
    all_goals (go_ret; exact ⟨rfl, Below.refl _ _⟩)

theorem false_top (a0 a1 : Option Addr) (nF cF nP cP : Nat) (f : Nat → Bool) (p : Nat → Int) (cut : Int) (w : World) (m0 : nF ≤ maxLen) (m1 : nP ≤ maxLen)
    (hF : Cells w a0 nF (fun j => .bool (f j))) (hP : Cells w a1 nP (fun j => .int .i64 (p j))) :
    Calls Try.prog 3 #[.slice a0 nF cF, .slice a1 nP cP, .int .i64 cut] w fun e w' => e = .returned (.bool true) ∧ Below w.heap.size w w' := by
  by_cases h : nF ≤ 65536 ∧ nP ≤ 65536 ∧ nF + 8 * nP ≤ 1048576 ∧ 0 ≤ cut ∧ cut ≤ nF
  · obtain ⟨h1, h2, h3, h4, h5⟩ := h
    obtain ⟨n, rfl⟩ := Int.eq_ofNat_of_zero_le h4
    exact false_core a0 a1 nF cF nP cP n f p w h1 h2 h3 (by omega) hF hP
  · exact false_early a0 a1 nF cF nP cP cut w m0 m1 h
end Go.Proofs.Qxb6003671a
