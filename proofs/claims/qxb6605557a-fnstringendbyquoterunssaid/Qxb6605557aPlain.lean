/-
  Plain laws on the end of a quoted string: the end, as a function of the text from its opening quote on.
-/
import Derived.Lib.Strings
namespace Go.Proofs.Qxb6605557a

/-- Does l open with three q? -/
def closes (q : UInt8) (l : List UInt8) : Bool := [q, q, q].isPrefixOf l

/-- How many q does l open with, up to c. -/
def more (q : UInt8) : Nat → List UInt8 → Nat
  | 0, _ => 0
  | _ + 1, [] => 0
  | c + 1, a :: l => if a = q then 1 + more q c l else 0

/-- From behind an opening quote on: as many bytes as there are up to and with the close. -/
def E1 (q : UInt8) : List UInt8 → Nat
  | [] => 0
  | [_] => 1
  | x :: y :: r => if x = q then 1 else if x = 92 ∧ q = 34 then 2 + E1 q r else 1 + E1 q (y :: r)

/-- The same behind three opening quotes. -/
def E3 (q : UInt8) : List UInt8 → Nat
  | [] => 0
  | [_] => 1
  | x :: y :: r => if closes q (x :: y :: r) = true then 3 + more q 2 (r.drop 1) else if x = 92 ∧ q = 34 then 2 + E3 q r else 1 + E3 q (y :: r)

/-- From the opening quote on. -/
def fin (q : UInt8) (s : List UInt8) : Nat := if closes q s = true then 3 + E3 q (s.drop 3) else 1 + E1 q (s.drop 1)

theorem closes_take {q : UInt8} {l : List UInt8} {n : Nat} (h : closes q l = false) : closes q (l.take n) = false := by
  cases hc : closes q (l.take n)
  · rfl
  · have h1 : [q, q, q] <+: l.take n := List.isPrefixOf_iff_prefix.1 hc
    have h2 : [q, q, q] <+: l := h1.trans (List.take_prefix n l)
    rw [closes, List.isPrefixOf_iff_prefix.2 h2] at h
    cases h

theorem closes_iff {q x y : UInt8} {r : List UInt8} : closes q (x :: y :: r) = true ↔ q = x ∧ q = y ∧ ∃ r', r = q :: r' := by
  unfold closes
  cases r with
  | nil => simp [List.isPrefixOf]
  | cons z r' =>
    simp only [List.isPrefixOf, Bool.and_true, Bool.and_eq_true, beq_iff_eq, List.cons.injEq]
    constructor
    · rintro ⟨rfl, rfl, rfl⟩; exact ⟨rfl, rfl, r', rfl, rfl⟩
    · rintro ⟨rfl, rfl, r'', rfl, rfl⟩; exact ⟨rfl, rfl, rfl⟩

theorem closes_three (q : UInt8) (r : List UInt8) : closes q (q :: q :: q :: r) = true := closes_iff.2 ⟨rfl, rfl, r, rfl⟩

theorem more_le (q : UInt8) : ∀ (c : Nat) (l : List UInt8), more q c l ≤ l.length ∧ more q c l ≤ c
  | 0, _ => by simp [more]
  | _ + 1, [] => by simp [more]
  | c + 1, a :: l => by
    have := more_le q c l
    simp only [more, List.length_cons]
    split <;> omega

theorem more_take (q : UInt8) : ∀ (c : Nat) (l : List UInt8), more q c (l.take (more q c l)) = more q c l
  | 0, _ => by simp [more]
  | _ + 1, [] => by simp [more]
  | c + 1, a :: l => by
    by_cases h : a = q
    · simp only [more, if_pos h, Nat.add_comm 1, List.take_succ_cons, more_take q c l]
    · simp [more, h]

theorem more_last (q : UInt8) : ∀ (c : Nat) (l : List UInt8), 0 < more q c l → l.getD (more q c l - 1) 0 = q
  | 0, _, h => by simp [more] at h
  | _ + 1, [], h => by simp [more] at h
  | c + 1, a :: l, h => by
    by_cases e : a = q
    · simp only [more, if_pos e]
      by_cases h0 : more q c l = 0
      · rw [h0]; simpa using e
      · have := more_last q c l (by omega)
        rw [show 1 + more q c l - 1 = (more q c l - 1) + 1 by omega]
        simpa using this
    · simp [more, e] at h

theorem E1_le (q : UInt8) : ∀ l : List UInt8, E1 q l ≤ l.length ∧ (0 < l.length → 0 < E1 q l)
  | [] => by simp [E1]
  | [_] => by simp [E1]
  | x :: y :: r => by
    have h1 := E1_le q r
    have h2 := E1_le q (y :: r)
    simp only [E1, List.length_cons] at h2 ⊢
    split
    · omega
    · split <;> omega

theorem E1_last (q : UInt8) : ∀ l : List UInt8, E1 q l < l.length → l.getD (E1 q l - 1) 0 = q
  | [], h => by simp [E1] at h
  | [_], h => by simp [E1] at h
  | x :: y :: r, h => by
    have b1 := E1_le q r
    have b2 := E1_le q (y :: r)
    simp only [List.length_cons] at b2
    simp only [E1, List.length_cons] at h ⊢
    split at h
    · rename_i e; rw [if_pos e]; simpa using e
    · rename_i e
      rw [if_neg e]
      split at h
      · rename_i e2
        rw [if_pos e2]
        have hr : 0 < r.length := by omega
        have := E1_last q r (by omega)
        rw [show 2 + E1 q r - 1 = (E1 q r - 1) + 1 + 1 by omega]
        simpa using this
      · rename_i e2
        rw [if_neg e2]
        have := E1_last q (y :: r) (by simp only [List.length_cons]; omega)
        rw [show 1 + E1 q (y :: r) - 1 = (E1 q (y :: r) - 1) + 1 by omega]
        simpa using this

theorem E1_take (q : UInt8) : ∀ l : List UInt8, E1 q (l.take (E1 q l)) = E1 q l
  | [] => by simp [E1]
  | [_] => by simp [E1]
  | x :: y :: r => by
    have b2 := E1_le q (y :: r)
    have i1 := E1_take q r
    have i2 := E1_take q (y :: r)
    by_cases e : x = q
    · simp [E1, e]
    · by_cases e2 : x = 92 ∧ q = 34
      · have : E1 q (x :: y :: r) = E1 q r + 2 := by simp only [E1, if_neg e, if_pos e2]; omega
        rw [this, List.take_succ_cons, List.take_succ_cons]
        simp only [E1, if_neg e, if_pos e2, i1]
        omega
      · have hE : E1 q (x :: y :: r) = E1 q (y :: r) + 1 := by simp only [E1, if_neg e, if_neg e2]; omega
        obtain ⟨m, hm⟩ : ∃ m, E1 q (y :: r) = m + 1 := ⟨E1 q (y :: r) - 1, by simp at b2; omega⟩
        rw [hm, List.take_succ_cons] at i2
        rw [hE, hm, List.take_succ_cons, List.take_succ_cons]
        simp only [E1, if_neg e, if_neg e2]
        rw [i2]
        omega

theorem E3_le (q : UInt8) : ∀ l : List UInt8, E3 q l ≤ l.length ∧ (0 < l.length → 0 < E3 q l)
  | [] => by simp [E3]
  | [_] => by simp [E3]
  | x :: y :: r => by
    have h1 := E3_le q r
    have h2 := E3_le q (y :: r)
    simp only [E3, List.length_cons] at h2 ⊢
    split
    · rename_i hc
      obtain ⟨_, _, r', rfl⟩ := closes_iff.1 hc
      have := more_le q 2 r'
      simp
      omega
    · split <;> omega

theorem E3_last (q : UInt8) : ∀ l : List UInt8, E3 q l < l.length → l.getD (E3 q l - 1) 0 = q
  | [], h => by simp [E3] at h
  | [_], h => by simp [E3] at h
  | x :: y :: r, h => by
    have b1 := E3_le q r
    have b2 := E3_le q (y :: r)
    simp only [List.length_cons] at b2
    simp only [E3, List.length_cons] at h ⊢
    split at h
    · rename_i hc
      rw [if_pos hc]
      obtain ⟨rfl, rfl, r', rfl⟩ := closes_iff.1 hc
      simp only [List.drop_succ_cons, List.drop_zero]
      by_cases h0 : more q 2 r' = 0
      · rw [h0]; simp
      · have := more_last q 2 r' (by omega)
        rw [show 3 + more q 2 r' - 1 = (more q 2 r' - 1) + 1 + 1 + 1 by omega]
        simpa using this
    · rename_i hc
      rw [if_neg hc]
      split at h
      · rename_i e2
        rw [if_pos e2]
        have hr : 0 < r.length := by omega
        have := E3_last q r (by omega)
        rw [show 2 + E3 q r - 1 = (E3 q r - 1) + 1 + 1 by omega]
        simpa using this
      · rename_i e2
        rw [if_neg e2]
        have := E3_last q (y :: r) (by simp only [List.length_cons]; omega)
        rw [show 1 + E3 q (y :: r) - 1 = (E3 q (y :: r) - 1) + 1 by omega]
        simpa using this

theorem E3_take (q : UInt8) : ∀ l : List UInt8, E3 q (l.take (E3 q l)) = E3 q l
  | [] => by simp [E3]
  | [_] => by simp [E3]
  | x :: y :: r => by
    have b2 := E3_le q (y :: r)
    have i1 := E3_take q r
    have i2 := E3_take q (y :: r)
    cases hc : closes q (x :: y :: r)
    · by_cases e2 : x = 92 ∧ q = 34
      · have hE : E3 q (x :: y :: r) = E3 q r + 2 := by simp only [E3, hc, if_pos e2]; simp; omega
        have hc2 : closes q (x :: y :: r.take (E3 q r)) = false := by simpa using closes_take (n := E3 q r + 2) hc
        rw [hE, List.take_succ_cons, List.take_succ_cons]
        simp only [E3, hc2, if_pos e2, i1]
        simp
        omega
      · have hE : E3 q (x :: y :: r) = E3 q (y :: r) + 1 := by simp only [E3, hc, if_neg e2]; simp; omega
        obtain ⟨m, hm⟩ : ∃ m, E3 q (y :: r) = m + 1 := ⟨E3 q (y :: r) - 1, by simp at b2; omega⟩
        have hc2 : closes q (x :: y :: r.take m) = false := by simpa using closes_take (n := m + 2) hc
        rw [hm, List.take_succ_cons] at i2
        rw [hE, hm, List.take_succ_cons, List.take_succ_cons]
        simp only [E3, hc2, if_neg e2]
        rw [i2]
        simp
        omega
    · obtain ⟨rfl, rfl, r', rfl⟩ := closes_iff.1 hc
      have hE : E3 q (q :: q :: q :: r') = more q 2 r' + 3 := by simp only [E3, hc, if_true, List.drop_succ_cons, List.drop_zero]; omega
      rw [hE]
      simp only [List.take_succ_cons, E3, closes_three, if_true, List.drop_succ_cons, List.drop_zero, more_take]
      omega

theorem fin_bd {q : UInt8} {s : List UInt8} (h : 0 < s.length) : 0 < fin q s ∧ fin q s ≤ s.length := by
  unfold fin
  cases hc : closes q s
  · have := E1_le q (s.drop 1)
    simp at this ⊢
    omega
  · match s, hc with
    | [x], hc => simp [closes, List.isPrefixOf] at hc
    | x :: y :: r, hc =>
      obtain ⟨rfl, rfl, r', rfl⟩ := closes_iff.1 hc
      have := E3_le q r'
      simp
      omega

theorem fin_last {q : UInt8} {s : List UInt8} (h0 : s.getD 0 0 = q) (h : fin q s < s.length) : s.getD (fin q s - 1) 0 = q := by
  unfold fin at h ⊢
  cases hc : closes q s
  · match s, h, h0 with
    | x :: r, h, h0 =>
      simp [hc] at h h0
      simp only [Bool.false_eq_true, if_false, List.drop_succ_cons, List.drop_zero]
      have b := E1_le q r
      have := E1_last q r (by omega)
      rw [show 1 + E1 q r - 1 = (E1 q r - 1) + 1 by omega]
      simpa using this
  · match s, hc, h with
    | [x], hc, _ => simp [closes, List.isPrefixOf] at hc
    | x :: y :: r, hc, h =>
      obtain ⟨rfl, rfl, r', rfl⟩ := closes_iff.1 hc
      simp only [hc, if_true, List.drop_succ_cons, List.drop_zero, List.length_cons] at h ⊢
      have b := E3_le q r'
      have := E3_last q r' (by omega)
      rw [show 3 + E3 q r' - 1 = (E3 q r' - 1) + 1 + 1 + 1 by omega]
      simpa using this

theorem fin_no {q : UInt8} {s : List UInt8} (h : closes q s = false) : fin q s = 1 + E1 q (s.drop 1) := by
  unfold fin
  rw [h]
  rfl

theorem fin_take {q : UInt8} {s : List UInt8} (h : 0 < s.length) : fin q (s.take (fin q s)) = fin q s := by
  cases hc : closes q s
  · have hc2 := closes_take (n := fin q s) hc
    rw [fin_no hc2, fin_no hc]
    match s, h with
    | x :: r, _ =>
      simp only [List.drop_succ_cons, List.drop_zero, Nat.add_comm 1 (E1 q r), List.take_succ_cons, E1_take]
  · match s, hc with
    | [x], hc => simp [closes, List.isPrefixOf] at hc
    | x :: y :: r, hc =>
      obtain ⟨rfl, rfl, r', rfl⟩ := closes_iff.1 hc
      have e : fin q (q :: q :: q :: r') = E3 q r' + 3 := by unfold fin; simp [hc]; omega
      rw [e]
      unfold fin
      simp only [List.take_succ_cons, closes_three, if_true, List.drop_succ_cons, List.drop_zero, E3_take]
      omega
end Go.Proofs.Qxb6605557a
