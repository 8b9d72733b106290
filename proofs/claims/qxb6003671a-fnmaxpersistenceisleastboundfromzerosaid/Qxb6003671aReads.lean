/-
  Reading victims: Result.False, Result.MaxPersistence, reversed.
-/
import Derived.Test.Qxb6003671aVics
namespace Go.Proofs.Qxb6003671a
open Go.RowKit
set_option linter.unusedVariables false

/-- A slice of n victims. -/
def Vics (w : World) (ao : Option Addr) (n : Nat) (tm : Nat → Int) (fb : Nat → Bool) (pv : Nat → Int) : Prop :=
  0 < n → ∃ g, ao = some ⟨g, 0, none⟩ ∧ g < w.heap.size ∧ ∀ j, j < n * 5 → w.cell? ⟨g, j, none⟩ = (vicsL tm fb pv n)[j]?

theorem Vics.later {w w' : World} {ao : Option Addr} {n : Nat} {tm : Nat → Int} {fb : Nat → Bool} {pv : Nat → Int} (h : Vics w ao n tm fb pv) {B : Nat} (hB : w.heap.size ≤ B) (hb : Below B w w') : Vics w' ao n tm fb pv := fun hp => by
  obtain ⟨g, e, hg, hc⟩ := h hp
  exact ⟨g, e, Nat.lt_of_lt_of_le hg hb.size, fun j hj => by rw [hb.cell (by exact Nat.lt_of_lt_of_le hg hB)]; exact hc j hj⟩

theorem Vics.of_own {w : World} {B n : Nat} {v : Value} {tm : Nat → Int} {fb : Nat → Bool} {pv : Nat → Int} (h : w.ownsRow B 41 5 v n (vicsL tm fb pv n)) : ∃ ao cap, v = .slice ao n cap ∧ Vics w ao n tm fb pv := by
  have hx := h
  obtain ⟨e1, e2⟩ := h
  rcases e2 with ⟨rfl, rfl⟩ | ⟨g, cap, cur, rfl, hge, hh, hcap, hmx, hsz, htk⟩
  · exact ⟨none, 0, rfl, fun h => by omega⟩
  · exact ⟨_, cap, rfl, fun _ => ⟨g, rfl, (Array.getElem?_eq_some_iff.1 hh).1, fun j hj => hx.cellAt j hj⟩⟩

theorem vicsL_at (tm : Nat → Int) (fb : Nat → Bool) (pv : Nat → Int) : ∀ (n k r : Nat), k < n → r < 5 → (vicsL tm fb pv n)[k * 5 + r]? = (vic (tm k) (fb k) (pv k))[r]?
  | 0, k, r, hk, _ => by omega
  | n + 1, k, r, hk, hr => by
    rw [vicsL]
    have hl := vicsL_length tm fb pv n
    by_cases h : k < n
    · rw [List.getElem?_append_left (by omega)]
      exact vicsL_at tm fb pv n k r h hr
    · obtain rfl : k = n := by omega
      rw [List.getElem?_append_right (by omega), hl, Nat.add_sub_cancel_left]

/-- How many of the first n are marked. -/
def cnt (fb : Nat → Bool) : Nat → Nat
  | 0 => 0
  | k + 1 => cnt fb k + (if fb k = true then 1 else 0)
theorem cnt_le (fb : Nat → Bool) : ∀ n, cnt fb n ≤ n
  | 0 => by simp [cnt]
  | k + 1 => by have := cnt_le fb k; simp only [cnt]; split <;> omega
/-- The greatest of the first n, 0 at least. -/
def mx (pv : Nat → Int) : Nat → Int
  | 0 => 0
  | k + 1 => if mx pv k < pv k then pv k else mx pv k

theorem Vics.five {w : World} {g n : Nat} {tm : Nat → Int} {fb : Nat → Bool} {pv : Nat → Int} (h : ∀ j, j < n * 5 → w.cell? ⟨g, j, none⟩ = (vicsL tm fb pv n)[j]?) {k : Nat} (hk : k < n) :
    w.cell? ⟨g, k * 5, none⟩ = some (.string ⟨#[84]⟩) ∧ w.cell? ⟨g, k * 5 + 1, none⟩ = some (.string ⟨#[83]⟩) ∧ w.cell? ⟨g, k * 5 + 2, none⟩ = some (.int .i64 (tm k)) ∧ w.cell? ⟨g, k * 5 + 3, none⟩ = some (.bool (fb k)) ∧ w.cell? ⟨g, k * 5 + 4, none⟩ = some (.int .i64 (pv k)) := by
  have e : ∀ r, r < 5 → w.cell? ⟨g, k * 5 + r, none⟩ = (vic (tm k) (fb k) (pv k))[r]? := fun r hr => by rw [h _ (by omega), vicsL_at tm fb pv n k r hk hr]
  exact ⟨e 0 (by omega), e 1 (by omega), e 2 (by omega), e 3 (by omega), e 4 (by omega)⟩

theorem ret_int {k : IntKind} {a b : Int} (h : a = b) : Ending.returned (.int k a) = .returned (.int k b) := by rw [h]

set_option maxHeartbeats 1000000 in
theorem False_any (ao : Option Addr) (n cap : Nat) (tm : Nat → Int) (fb : Nat → Bool) (pv : Nat → Int) (w : World) (hn : n ≤ 65536) (hV : Vics w ao n tm fb pv) :
    Calls Try.prog 12 #[.agg #[.slice ao n cap, .int .i64 0, .int .i64 0, .int .i64 0, .int .i64 0, .int .i64 0, .int .i64 0, .int .i64 0, .int .i64 0, .int .i64 0, .int .i64 0]] w fun e w' => e = .returned (.int .i64 (cnt fb n : Int)) ∧ Below w.heap.size w w' := by
  go_enter Try.func12, Try.ntmps12
  go_wp2
  go_loopw [3, 5, 9] (fun vn _ vi wr => ∃ k : Nat, k ≤ n ∧ vi = .int .i64 k ∧ vn = .int .i64 (cnt fb k : Int) ∧ Below w.heap.size w wr) (fun _ _ vi _ => n - (intOf vi).toNat)
  case atStart => exact ⟨0, Nat.zero_le _, rfl, rfl, (Below.refl _ _).alloc (Nat.le_refl _) _⟩
  case round =>
    obtain ⟨k, hk, rfl, rfl, hb⟩ := hrel
    by_cases hlt : k < n
    · have hlt' : (k : Int) < (n : Int) := by omega
      obtain ⟨g, eg, hg, hc⟩ := hV.later (Nat.le_refl _) hb (by omega)
      subst eg
      obtain ⟨c0, c1, c2, c3, c4⟩ := Vics.five hc hlt
      clear hc hV
      have hcl := cnt_le fb k
      have hcs : cnt fb (k + 1) = cnt fb k + (if fb k = true then 1 else 0) := rfl
      have HC : Hid (cnt fb (k + 1) = cnt fb k + (if fb k = true then 1 else 0)) := hcs
      clear hcs
      cases hf : fb k
      · rw [hf] at c3
        have HC2 : Hid (cnt fb (k + 1) = cnt fb k) := by rw [hf] at HC; exact HC.out
        clear HC hf
        go_wp2
        go_roundw
        case rel => exact ⟨k + 1, by omega, by go_num, by rw [HC2.out], hb.alloc hb.size _⟩
        case measure => simp [intOf]; omega
      · rw [hf] at c3
        have HC2 : Hid (cnt fb (k + 1) = cnt fb k + 1) := by rw [hf] at HC; exact HC.out
        clear HC hf
        go_wp2
        go_roundw
        case rel => exact ⟨k + 1, by omega, by go_num, by rw [HC2.out]; go_num, hb.alloc hb.size _⟩
        case measure => simp [intOf]; omega
    · go_wp2
      go_ret
      exact ⟨ret_int (by rw [show k = n by omega]), hb⟩

set_option maxHeartbeats 1000000 in
theorem Max_any (ao : Option Addr) (n cap : Nat) (tm : Nat → Int) (fb : Nat → Bool) (pv : Nat → Int) (w : World) (hn : n ≤ 65536) (hV : Vics w ao n tm fb pv) :
    Calls Try.prog 14 #[.agg #[.slice ao n cap, .int .i64 0, .int .i64 0, .int .i64 0, .int .i64 0, .int .i64 0, .int .i64 0, .int .i64 0, .int .i64 0, .int .i64 0, .int .i64 0]] w fun e w' => e = .returned (.int .i64 (mx pv n)) ∧ Below w.heap.size w w' := by
  go_enter Try.func14, Try.ntmps14
  go_wp2
  go_loopw [3, 5, 9] (fun vn _ vi wr => ∃ k : Nat, k ≤ n ∧ vi = .int .i64 k ∧ vn = .int .i64 (mx pv k) ∧ Below w.heap.size w wr) (fun _ _ vi _ => n - (intOf vi).toNat)
  case atStart => exact ⟨0, Nat.zero_le _, rfl, rfl, (Below.refl _ _).alloc (Nat.le_refl _) _⟩
  case round =>
    obtain ⟨k, hk, rfl, rfl, hb⟩ := hrel
    by_cases hlt : k < n
    · have hlt' : (k : Int) < (n : Int) := by omega
      obtain ⟨g, eg, hg, hc⟩ := hV.later (Nat.le_refl _) hb (by omega)
      subst eg
      obtain ⟨c0, c1, c2, c3, c4⟩ := Vics.five hc hlt
      clear hc hV
      have HC : Hid (mx pv (k + 1) = if mx pv k < pv k then pv k else mx pv k) := rfl
      by_cases hm : mx pv k < pv k
      · have HC2 : Hid (mx pv (k + 1) = pv k) := by have := HC.out; rw [if_pos hm] at this; exact this
        clear HC
        go_wp2
        go_roundw
        case rel => exact ⟨k + 1, by omega, by go_num, by rw [HC2.out], hb.alloc hb.size _⟩
        case measure => simp [intOf]; omega
      · have HC2 : Hid (mx pv (k + 1) = mx pv k) := by have := HC.out; rw [if_neg hm] at this; exact this
        clear HC
        go_wp2
        go_roundw
        case rel => exact ⟨k + 1, by omega, by go_num, by rw [HC2.out], hb.alloc hb.size _⟩
        case measure => simp [intOf]; omega
    · go_wp2
      go_ret
      exact ⟨ret_int (by rw [show k = n by omega]), hb⟩

theorem victims_any (aF aP : Option Addr) (nF cF nP cP lo hi : Nat) (f : Nat → Bool) (p : Nat → Int) (flip : Bool) (w : World) (hlh : lo ≤ hi) (hh : hi ≤ 65536) (hnF : nF ≤ 1048576) (hnP : nP ≤ 1048576)
    (hF : Cells w aF nF (fun j => .bool (f j))) (hP : Cells w aP nP (fun j => .int .i64 (p j))) :
    Calls Try.prog 10 #[.slice aF nF cF, .slice aP nP cP, .int .i64 lo, .int .i64 hi, .bool flip] w fun e w' => ∃ ao cap, e = .returned (.slice ao (hi - lo) cap) ∧
      Vics w' ao (hi - lo) (fun j => ((lo + j : Nat) : Int)) (fun j => flagAt nF f flip (lo + j)) (fun j => persAt nP p (lo + j)) ∧ Below w.heap.size w w' :=
  (victimsOf_any aF aP nF cF nP cP lo hi f p flip w hlh hh hnF hnP hF hP).mono fun e w' ⟨v, h1, h2, h3⟩ => by
    obtain ⟨ao, cap, rfl, h4⟩ := Vics.of_own h2
    exact ⟨ao, cap, h1, h4, h3⟩

theorem own_back {w : World} {B n k : Nat} {v : Value} {tm : Nat → Int} {fb : Nat → Bool} {pv : Nat → Int} (hk : k < n) (hkn : n - 1 - (n - 1 - k) = k)
    (h : w.ownsRow B 41 5 v (n - 1 - k + 1) (vicsL (fun j => tm (n - 1 - j)) (fun j => fb (n - 1 - j)) (fun j => pv (n - 1 - j)) (n - 1 - k) ++ vic (tm k) (fb k) (pv k))) :
    w.ownsRow B 41 5 v (n - k) (vicsL (fun j => tm (n - 1 - j)) (fun j => fb (n - 1 - j)) (fun j => pv (n - 1 - j)) (n - k)) := by
  rw [show n - k = n - 1 - k + 1 by omega, vicsL]
  simp only [hkn]
  exact h

set_option maxRecDepth 100000 in
set_option maxHeartbeats 2000000 in
theorem reversed_any (ao : Option Addr) (n cap : Nat) (tm : Nat → Int) (fb : Nat → Bool) (pv : Nat → Int) (w : World) (hn : n ≤ 65536) (hV : Vics w ao n tm fb pv) :
    Calls Try.prog 11 #[.slice ao n cap] w fun e w' => ∃ ao' cap', e = .returned (.slice ao' n cap') ∧ Vics w' ao' n (fun j => tm (n - 1 - j)) (fun j => fb (n - 1 - j)) (fun j => pv (n - 1 - j)) ∧ Below w.heap.size w w' := by
  obtain ⟨i0, hi0, hz0, hz1, hz2⟩ := info_parts Try.info41
  go_enter Try.func11, Try.ntmps11
  go_wp2_with (at_make; refine wpList_make_own _ rfl _ _ 27 rfl w.heap.size 41 i0 _ 5 Try.underlying27 hi0 hz0 hz1 .i64 .i64 _ n rfl rfl (by omega) (by rw [hz2]; omega) (by unfold maxLen; omega) (Nat.le_refl _) ?_; intro w1 hown1 hgr1)
  -- the counter stands at k - 1: k victims are still to come
  go_loopw [3, 4] (fun v vi wr => ∃ k : Nat, k ≤ n ∧ vi = .int .i64 ((k : Int) - 1) ∧ wr.ownsRow w.heap.size 41 5 v (n - k) (vicsL (fun j => tm (n - 1 - j)) (fun j => fb (n - 1 - j)) (fun j => pv (n - 1 - j)) (n - k)) ∧ Below w.heap.size w wr) (fun _ vi _ => (intOf vi + 1).toNat)
  case atStart => exact ⟨n, Nat.le_refl _, rfl, by rw [Nat.sub_self]; exact hown1, (Below.refl _ _).grown hgr1 (Nat.le_refl _) (fun k hk => by cases hk)⟩
  case round =>
    clear hown1 hgr1 w1
    obtain ⟨k, hk, rfl, hown, hbl⟩ := hrel
    cases k with
    | zero =>
      go_wp2
      go_ret
      obtain ⟨ao', cap', rfl, h4⟩ := Vics.of_own (by exact hown)
      exact ⟨ao', cap', rfl, h4, hbl⟩
    | succ k =>
      have e1 : (((k + 1 : Nat) : Int) - 1) = (k : Int) := by omega
      rw [e1]
      obtain ⟨g, eg, hg, hc⟩ := hV.later (Nat.le_refl _) hbl (by omega)
      subst eg
      obtain ⟨c0, c1, c2, c3, c4⟩ := Vics.five hc (show k < n by omega)
      clear hc hV e1
      have hlt' : (k : Int) < (n : Int) := by omega
      rw [show n - (k + 1) = n - 1 - k by omega] at hown
      have hnk : n - 1 - k ≤ 65536 := by omega
      go_wp2_with (at_builtin; go_must (refine wpList_append_own _ rfl (.tmp 15) (.tmp 20) 27 rfl w.heap.size 41 i0 _ 5 56 Try.underlying27 hi0 hz0 hz1 hz2 rfl (by decide) _ _ _ rfl (hown.alloc _) ⟨wr.heap.size, 0, none⟩ 1 1 (vic (tm k) (fb k) (pv k)) rfl rfl (vic_new _ _ _ _) (vic_one _ _ _) (by unfold maxLen; omega) (by omega) (by have := hbl.size; simp; omega) ?_); intro v' w2 hown' hgr _)
      go_roundw
      case rel => exact ⟨k, by omega, rfl, own_back (by omega) (by omega) hown', (hbl.alloc hbl.size _).grown hgr (by simp; have := hbl.size; omega) (fun k hk => (hown.lt k hk).1)⟩
      case measure => simp [intOf]
end Go.Proofs.Qxb6003671a
