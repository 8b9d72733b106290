/-
  The walk of FnStringEndStopsAtItsClose.
-/
import Derived.Test.Qxb6605557aEnd
namespace Go.Proofs.Qxb6605557a
open Go.RowKit
set_option linter.unusedVariables false

theorem at_eq (t : ByteArray) (i : Nat) (h : i < t.size) : t[i] = t.data.toList.getD i 0 := by
  rw [List.getD_eq_getElem?_getD, List.getElem?_eq_getElem (by simpa using h)]; rfl

theorem cut_data (t : ByteArray) (e : Nat) : (t.extract 0 e).data.toList = t.data.toList.take e := by
  rw [Lib.extract_data]; simp

theorem cut_at (t : ByteArray) (i e : Nat) (h : i < t.size) (he : i < e) (h2 : i < (t.extract 0 e).size) : (t.extract 0 e)[i] = t[i] := by
  rw [at_eq, at_eq, cut_data]
  simp only [List.getD_eq_getElem?_getD, List.getElem?_take, if_pos he]

theorem append_at (p t : ByteArray) (i : Nat) (h : i < t.size) (h2 : p.size + i < (p ++ t).size) : (p ++ t)[p.size + i] = t[i] := by
  rw [at_eq, at_eq]
  have e : (p ++ t).data.toList = p.data.toList ++ t.data.toList := by simp
  rw [e]
  simp only [List.getD_eq_getElem?_getD]
  rw [List.getElem?_append_right (by simp)]
  congr 2
  simp

set_option maxHeartbeats 1000000 in
theorem stops_core (t p : ByteArray) (i : Nat) (w : World) (hs : t.size + p.size ≤ 1048576) (hi : i < t.size) (hq : t[i] = 34 ∨ t[i] = 39) (ht : t.size ≤ maxLen) (hp : p.size ≤ maxLen) :
    Calls Try.prog 4 #[.string t, .int .i64 i, .string p] w fun e w' => e = .returned (.bool true) ∧ Below w.heap.size w w' := by
  have hl : 0 < (t.data.toList.drop i).length := by simp; omega
  have bd := fin_bd (q := t[i]) hl
  have hlen : (t.data.toList.drop i).length = t.size - i := by simp
  obtain ⟨m, hm⟩ : ∃ m, m + 1 = i + fin t[i] (t.data.toList.drop i) := ⟨i + fin t[i] (t.data.toList.drop i) - 1, by omega⟩
  have hmi : i ≤ m := by omega
  have hmN : m + 1 ≤ t.size := by omega
  have G1 := fun w => zzStringEnd_any t i t[i] w (by omega) hi rfl
  rw [← hm] at G1
  have hcs : (t.extract 0 (m + 1)).size = m + 1 := by rw [Lib.size_eq, cut_data]; simp; omega
  have G2 := fun w => zzStringEnd_any (t.extract 0 (m + 1)) i t[i] w (by omega) (by omega) (cut_at t i (m + 1) hi (by omega) (by omega))
  have e2 : i + fin t[i] ((t.extract 0 (m + 1)).data.toList.drop i) = m + 1 := by
    rw [cut_data, List.drop_take, show m + 1 - i = fin t[i] (t.data.toList.drop i) by omega, fin_take hl, hm]
  rw [e2] at G2
  have G3 := fun w => zzStringEnd_any (p ++ t) (p.size + i) t[i] w (by simp; omega) (by simp; omega) (append_at p t i hi (by simp; omega))
  have e3 : p.size + i + fin t[i] ((p ++ t).data.toList.drop (p.size + i)) = p.size + (m + 1) := by
    have ed : (p ++ t).data.toList.drop (p.size + i) = t.data.toList.drop i := by
      have e : (p ++ t).data.toList = p.data.toList ++ t.data.toList := by simp
      rw [e, List.drop_append]
      simp
    rw [ed]
    omega
  rw [e3] at G3
  have e4 : ((p.size + i : Nat) : Int) = (p.size : Int) + (i : Int) := by omega
  have e5 : ((p.size + (m + 1) : Nat) : Int) = (p.size : Int) + ((m : Int) + 1) := by omega
  have e6 : ((m + 1 : Nat) : Int) = (m : Int) + 1 := by omega
  rw [e4, e5] at G3
  rw [e6] at G1 G2
  have HLast : Hid (m + 1 < t.size → ∀ h, t[m]'h = t[i]) := fun h hmt => by
    have := fin_last (q := t[i]) (s := t.data.toList.drop i) (by rw [drop_at t i hi]; rfl) (by omega)
    rw [at_eq]
    rw [show fin t[i] (t.data.toList.drop i) - 1 = m - i by omega] at this
    simp only [List.getD_eq_getElem?_getD, List.getElem?_drop] at this ⊢
    rwa [show i + (m - i) = m by omega] at this
  clear e2 e3 e4 e5 e6 hcs bd hl hlen hm
  rcases hq with hq | hq
  · have hx : ((t[i].toNat : Int) != 34) = false := by rw [hq]; rfl
    clear hq
    go_enter Try.func4, Try.ntmps4
    go_wp2_with fail
    refine (zz8_any t _ p _ ht hp).mono ?_
    rintro e w' ⟨r, rfl, rfl, _⟩
    cases r
    · go_wp2
      go_ret
      exact ⟨rfl, Below.refl _ _⟩
    go_wp2_with fail
    refine (G1 _).mono ?_
    rintro e w1 ⟨rfl, hb1⟩
    clear G1
    go_wp2_with fail
    by_cases hN : m + 1 < t.size
    · have hN' : (m : Int) + 1 < (t.size : Int) := by omega
      have hmm : (m : Int) < (t.size : Int) := by omega
      have hmm2 : m < t.size := by omega
      have heq : t[m] = t[i] := HLast.out hN hmm2
      go_quiet (fail)
      go_wp2_with fail
      refine (G2 _).mono ?_
      rintro e w2 ⟨rfl, hb2⟩
      go_wp2_with fail
      refine (G3 _).mono ?_
      rintro e w3 ⟨rfl, hb3⟩
      go_wp2
      go_ret
      exact ⟨by first | rfl | simp, (below_drewN hb1 _).trans ((hb2.mono hb1.size).trans (hb3.mono (Nat.le_trans hb1.size hb2.size)))⟩
    · have hd : decide ((m : Int) + 1 < (t.size : Int)) = false := decide_eq_false (by omega)
      go_quiet (fail)
      go_wp2_with fail
      refine (G2 _).mono ?_
      rintro e w2 ⟨rfl, hb2⟩
      go_wp2_with fail
      refine (G3 _).mono ?_
      rintro e w3 ⟨rfl, hb3⟩
      go_wp2
      go_ret
      exact ⟨by first | rfl | simp, (below_drewN hb1 _).trans ((hb2.mono hb1.size).trans (hb3.mono (Nat.le_trans hb1.size hb2.size)))⟩
  · have hx : ((t[i].toNat : Int) != 34) = true := by rw [hq]; rfl
    have hy : ((t[i].toNat : Int) != 39) = false := by rw [hq]; rfl
    clear hq
    go_enter Try.func4, Try.ntmps4
    go_wp2_with fail
    refine (zz8_any t _ p _ ht hp).mono ?_
    rintro e w' ⟨r, rfl, rfl, _⟩
    cases r
    · go_wp2
      go_ret
      exact ⟨rfl, Below.refl _ _⟩
    go_wp2_with fail
    refine (G1 _).mono ?_
    rintro e w1 ⟨rfl, hb1⟩
    clear G1
    go_wp2_with fail
    by_cases hN : m + 1 < t.size
    · have hN' : (m : Int) + 1 < (t.size : Int) := by omega
      have hmm : (m : Int) < (t.size : Int) := by omega
      have hmm2 : m < t.size := by omega
      have heq : t[m] = t[i] := HLast.out hN hmm2
      go_quiet (fail)
      go_wp2_with fail
      refine (G2 _).mono ?_
      rintro e w2 ⟨rfl, hb2⟩
      go_wp2_with fail
      refine (G3 _).mono ?_
      rintro e w3 ⟨rfl, hb3⟩
      go_wp2
      go_ret
      exact ⟨by first | rfl | simp, (below_drewN hb1 _).trans ((hb2.mono hb1.size).trans (hb3.mono (Nat.le_trans hb1.size hb2.size)))⟩
    · have hd : decide ((m : Int) + 1 < (t.size : Int)) = false := decide_eq_false (by omega)
      go_quiet (fail)
      go_wp2_with fail
      refine (G2 _).mono ?_
      rintro e w2 ⟨rfl, hb2⟩
      go_wp2_with fail
      refine (G3 _).mono ?_
      rintro e w3 ⟨rfl, hb3⟩
      go_wp2
      go_ret
      exact ⟨by first | rfl | simp, (below_drewN hb1 _).trans ((hb2.mono hb1.size).trans (hb3.mono (Nat.le_trans hb1.size hb2.size)))⟩

/-- No quote at i, no such i, or too many bytes: true at once. -/
theorem stops_none (t p : ByteArray) (i : Nat) (w : World) (hi : i < t.size) (hq : ¬ (t[i] = 34 ∨ t[i] = 39)) (ht : t.size ≤ maxLen) (hp : p.size ≤ maxLen) :
    Calls Try.prog 4 #[.string t, .int .i64 i, .string p] w fun e w' => e = .returned (.bool true) ∧ Below w.heap.size w w' := by
  have hz := fun w => zz8_any t i p w ht hp
  unfold maxLen at ht hp
  have hx : ((t[i].toNat : Int) != 34) = true := by
    have : t[i].toNat ≠ 34 := fun h => hq (.inl (UInt8.toNat_inj.1 h))
    rw [bne_iff_ne]; omega
  have hy : ((t[i].toNat : Int) != 39) = true := by
    have : t[i].toNat ≠ 39 := fun h => hq (.inr (UInt8.toNat_inj.1 h))
    rw [bne_iff_ne]; omega
  clear hq
  go_enter Try.func4, Try.ntmps4
  go_wp2_with (go_at_call 8; refine (hz _).mono ?_; rintro e w' ⟨r, rfl, rfl, hsum⟩)
  all_goals (go_ret; exact ⟨rfl, Below.refl _ _⟩)

theorem stops_out (t p : ByteArray) (i : Int) (w : World) (hi : ¬ (0 ≤ i ∧ i < t.size)) (ht : t.size ≤ maxLen) (hp : p.size ≤ maxLen) :
    Calls Try.prog 4 #[.string t, .int .i64 i, .string p] w fun e w' => e = .returned (.bool true) ∧ Below w.heap.size w w' := by
  have hz := fun w => zz8_any t i p w ht hp
  unfold maxLen at ht hp
  by_cases h0 : i < 0
  · clear hi
    go_enter Try.func4, Try.ntmps4
    go_wp2_with (go_at_call 8; refine (hz _).mono ?_; rintro e w' ⟨r, rfl, rfl, hsum⟩)
    all_goals (go_ret; exact ⟨rfl, Below.refl _ _⟩)
  · have h1 : (t.size : Int) ≤ i := by omega
    clear hi
    go_enter Try.func4, Try.ntmps4
    go_wp2_with (go_at_call 8; refine (hz _).mono ?_; rintro e w' ⟨r, rfl, rfl, hsum⟩)
    all_goals (go_ret; exact ⟨rfl, Below.refl _ _⟩)

theorem stops_big (t p : ByteArray) (i : Int) (w : World) (hs : ¬ t.size + p.size ≤ 1048576) (ht : t.size ≤ maxLen) (hp : p.size ≤ maxLen) :
    Calls Try.prog 4 #[.string t, .int .i64 i, .string p] w fun e w' => e = .returned (.bool true) ∧ Below w.heap.size w w' := by
  have hz : ∀ w, Calls Try.prog 8 #[.string t, .int .i64 i, .string p] w fun en w' => en = .returned (.bool false) ∧ w = w' := fun w =>
    (zz8_any t i p w ht hp).mono fun e w' ⟨r, h1, h2, h3⟩ => by
      cases r
      · exact ⟨h1, h2⟩
      · exact absurd (h3 rfl) hs
  clear hs
  go_enter Try.func4, Try.ntmps4
  go_wp2_with (go_at_call 8; refine (hz _).mono ?_; rintro e w' ⟨rfl, rfl⟩)
  go_ret
  exact ⟨rfl, Below.refl _ _⟩

theorem stops_top (t : ByteArray) (i : Int) (p : ByteArray) (ht : t.size ≤ maxLen) (hp : p.size ≤ maxLen) (w : World) :
    Calls Try.prog 4 #[.string t, .int .i64 i, .string p] w fun e w' => e = .returned (.bool true) ∧ Below w.heap.size w w' := by
  by_cases hs : t.size + p.size ≤ 1048576
  · by_cases hi : 0 ≤ i ∧ i < t.size
    · obtain ⟨n, rfl⟩ := Int.eq_ofNat_of_zero_le hi.1
      have hn : n < t.size := by omega
      by_cases hq : t[n] = 34 ∨ t[n] = 39
      · exact stops_core t p n w hs hn hq ht hp
      · exact stops_none t p n w hn hq ht hp
    · exact stops_out t p i w hi ht hp
  · exact stops_big t p i w hs ht hp
end Go.Proofs.Qxb6605557a
