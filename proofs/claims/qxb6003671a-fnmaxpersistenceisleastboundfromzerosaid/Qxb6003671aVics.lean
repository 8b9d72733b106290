/-
  victimsOf, reversed: contracts.
-/
import Derived.Test.Qxb6003671aCopy
namespace Go.Proofs.Qxb6003671a
open Go.RowKit
set_option linter.unusedVariables false

theorem Try.info41 : (Try.prog.info? 41).map (fun i => (i.zero, i.size, i.bytes)) = some (some (.agg #[.string ⟨#[]⟩, .string ⟨#[]⟩, .int .i64 0, .bool false, .int .i64 0]), 5, 56) := by kernel_rfl

/-- One victim's cells. -/
def vic (i : Int) (f : Bool) (p : Int) : List Value := [.string ⟨#[84]⟩, .string ⟨#[83]⟩, .int .i64 i, .bool f, .int .i64 p]
/-- The first k victims' cells. -/
def vicsL (tm : Nat → Int) (fb : Nat → Bool) (pv : Nat → Int) : Nat → List Value
  | 0 => []
  | k + 1 => vicsL tm fb pv k ++ vic (tm k) (fb k) (pv k)

theorem vicsL_length (tm : Nat → Int) (fb : Nat → Bool) (pv : Nat → Int) : ∀ k, (vicsL tm fb pv k).length = k * 5
  | 0 => rfl
  | k + 1 => by rw [vicsL, List.length_append, vicsL_length tm fb pv k, vic]; simp; omega

/-- What flags[i] is taken for. -/
def flagAt (n : Nat) (f : Nat → Bool) (flip : Bool) (i : Nat) : Bool := (if i < n then f i else false) != flip
def persAt (n : Nat) (p : Nat → Int) (i : Nat) : Int := if i < n then p i else 0

theorem vic_new (w : World) (i : Int) (f : Bool) (p : Int) : ∀ j u, (vic i f p)[j]? = some u → (w.alloc (.cells #[.string ⟨#[84]⟩, .string ⟨#[83]⟩, .int .i64 i, .bool f, .int .i64 p] 41)).cell? ((⟨w.heap.size, 0, none⟩ : Addr).add j) = some u := by
  intro j u hj
  have ea : (⟨w.heap.size, 0, none⟩ : Addr).add j = ⟨w.heap.size, j, none⟩ := by unfold Addr.add; split <;> simp_all
  rw [ea]
  unfold vic at hj
  simpa using hj
theorem vic_one (i : Int) (f : Bool) (p : Int) : ∀ u ∈ vic i f p, u.oneCell' = true := by
  intro u hu
  simp only [vic, List.mem_cons, List.not_mem_nil, or_false] at hu
  rcases hu with rfl | rfl | rfl | rfl | rfl <;> rfl

theorem own_next {w : World} {B lo i : Nat} {v : Value} {fb : Nat → Bool} {pv : Nat → Int} {fi : Bool} {pi : Int} (hlo : lo ≤ i) (hf : fb i = fi) (hp : pv i = pi)
    (h : w.ownsRow B 41 5 v (i - lo + 1) (vicsL (fun j => ((lo + j : Nat) : Int)) (fun j => fb (lo + j)) (fun j => pv (lo + j)) (i - lo) ++ vic i fi pi)) :
    w.ownsRow B 41 5 v (i + 1 - lo) (vicsL (fun j => ((lo + j : Nat) : Int)) (fun j => fb (lo + j)) (fun j => pv (lo + j)) (i + 1 - lo)) := by
  rw [show i + 1 - lo = i - lo + 1 by omega, vicsL]
  simp only [show lo + (i - lo) = i by omega, hf, hp]
  exact h

set_option maxRecDepth 100000 in
set_option maxHeartbeats 2000000 in
theorem victimsOf_any (aF aP : Option Addr) (nF cF nP cP lo hi : Nat) (f : Nat → Bool) (p : Nat → Int) (flip : Bool) (w : World) (hlh : lo ≤ hi) (hh : hi ≤ 65536) (hnF : nF ≤ 1048576) (hnP : nP ≤ 1048576)
    (hF : Cells w aF nF (fun j => .bool (f j))) (hP : Cells w aP nP (fun j => .int .i64 (p j))) :
    Calls Try.prog 10 #[.slice aF nF cF, .slice aP nP cP, .int .i64 lo, .int .i64 hi, .bool flip] w fun e w' => ∃ v, e = .returned v ∧
      w'.ownsRow w.heap.size 41 5 v (hi - lo) (vicsL (fun j => ((lo + j : Nat) : Int)) (fun j => flagAt nF f flip (lo + j)) (fun j => persAt nP p (lo + j)) (hi - lo)) ∧ Below w.heap.size w w' := by
  obtain ⟨i0, hi0, hz0, hz1, hz2⟩ := info_parts Try.info41
  go_enter Try.func10, Try.ntmps10
  go_wp2_with (at_make; refine wpList_make_own _ rfl _ _ 27 rfl w.heap.size 41 i0 _ 5 Try.underlying27 hi0 hz0 hz1 .i64 .i64 _ (hi - lo) rfl rfl (by omega) (by rw [hz2]; omega) (by unfold maxLen; omega) (Nat.le_refl _) ?_; intro w1 hown1 hgr1)
  go_loopw [11, 12, 13, 14] (fun v vi _ _ wr => ∃ i : Nat, lo ≤ i ∧ i ≤ hi ∧ vi = .int .i64 i ∧ wr.ownsRow w.heap.size 41 5 v (i - lo) (vicsL (fun j => ((lo + j : Nat) : Int)) (fun j => flagAt nF f flip (lo + j)) (fun j => persAt nP p (lo + j)) (i - lo)) ∧ Below w.heap.size w wr) (fun _ vi _ _ _ => hi - (intOf vi).toNat)
  case atStart => exact ⟨lo, Nat.le_refl _, hlh, rfl, by rw [Nat.sub_self]; exact hown1, (Below.refl _ _).grown hgr1 (Nat.le_refl _) (fun k hk => by cases hk)⟩
  case round =>
    clear hown1 hgr1 w1
    obtain ⟨i, hlo, hhi, rfl, hown, hbl⟩ := hrel
    by_cases hlt : i < hi
    · have hlt' : (i : Int) < (hi : Int) := by omega
      replace hF := hF.later (Nat.le_refl _) hbl
      replace hP := hP.later (Nat.le_refl _) hbl
      by_cases hiF : i < nF
      · obtain ⟨gF, oF, eF, _, hcF⟩ := hF (by omega)
        subst eF
        have hcf := hcF i hiF
        clear hcF hF
        have hiF' : (i : Int) < (nF : Int) := by omega
        by_cases hiP : i < nP
        · obtain ⟨gP, oP, eP, _, hcP⟩ := hP (by omega)
          subst eP
          have hcp := hcP i hiP
          clear hcP hP
          have hiP' : (i : Int) < (nP : Int) := by omega
          cases flip
          · have FE : Hid (flagAt nF f false i = (f i)) := by show _ = _; simp [flagAt, hiF]
            have PE : Hid (persAt nP p i = (p i)) := by show _ = _; simp [persAt, hiP]
            go_wp2_with (at_builtin; refine wpList_append_own _ rfl (.tmp 44) (.tmp 49) 27 rfl w.heap.size 41 i0 _ 5 56 Try.underlying27 hi0 hz0 hz1 hz2 rfl (by decide) _ _ _ rfl (hown.alloc _) ⟨wr.heap.size, 0, none⟩ 1 1 (vic i (f i) (p i)) rfl rfl (vic_new _ _ _ _) (vic_one _ _ _) (by unfold maxLen; omega) (by omega) (by have := hbl.size; simp; omega) ?_; intro v' w2 hown' hgr _)
            go_roundw
            case rel => exact ⟨i + 1, by omega, by omega, by go_num, by exact own_next hlo FE.out PE.out hown', (hbl.alloc hbl.size _).grown hgr (by simp; have := hbl.size; omega) (fun k hk => (hown.lt k hk).1)⟩
            case measure => simp [intOf]; omega
          · have FE : Hid (flagAt nF f true i = (!f i)) := by show _ = _; simp [flagAt, hiF]
            have PE : Hid (persAt nP p i = (p i)) := by show _ = _; simp [persAt, hiP]
            go_wp2_with (at_builtin; refine wpList_append_own _ rfl (.tmp 44) (.tmp 49) 27 rfl w.heap.size 41 i0 _ 5 56 Try.underlying27 hi0 hz0 hz1 hz2 rfl (by decide) _ _ _ rfl (hown.alloc _) ⟨wr.heap.size, 0, none⟩ 1 1 (vic i (!f i) (p i)) rfl rfl (vic_new _ _ _ _) (vic_one _ _ _) (by unfold maxLen; omega) (by omega) (by have := hbl.size; simp; omega) ?_; intro v' w2 hown' hgr _)
            go_roundw
            case rel => exact ⟨i + 1, by omega, by omega, by go_num, by exact own_next hlo FE.out PE.out hown', (hbl.alloc hbl.size _).grown hgr (by simp; have := hbl.size; omega) (fun k hk => (hown.lt k hk).1)⟩
            case measure => simp [intOf]; omega
        · have hiP' : (nP : Int) ≤ (i : Int) := by omega
          cases flip
          · have FE : Hid (flagAt nF f false i = (f i)) := by show _ = _; simp [flagAt, hiF]
            have PE : Hid (persAt nP p i = 0) := by show _ = _; simp [persAt, hiP]
            go_wp2_with (at_builtin; refine wpList_append_own _ rfl (.tmp 44) (.tmp 49) 27 rfl w.heap.size 41 i0 _ 5 56 Try.underlying27 hi0 hz0 hz1 hz2 rfl (by decide) _ _ _ rfl (hown.alloc _) ⟨wr.heap.size, 0, none⟩ 1 1 (vic i (f i) 0) rfl rfl (vic_new _ _ _ _) (vic_one _ _ _) (by unfold maxLen; omega) (by omega) (by have := hbl.size; simp; omega) ?_; intro v' w2 hown' hgr _)
            go_roundw
            case rel => exact ⟨i + 1, by omega, by omega, by go_num, by exact own_next hlo FE.out PE.out hown', (hbl.alloc hbl.size _).grown hgr (by simp; have := hbl.size; omega) (fun k hk => (hown.lt k hk).1)⟩
            case measure => simp [intOf]; omega
          · have FE : Hid (flagAt nF f true i = (!f i)) := by show _ = _; simp [flagAt, hiF]
            have PE : Hid (persAt nP p i = 0) := by show _ = _; simp [persAt, hiP]
            go_wp2_with (at_builtin; refine wpList_append_own _ rfl (.tmp 44) (.tmp 49) 27 rfl w.heap.size 41 i0 _ 5 56 Try.underlying27 hi0 hz0 hz1 hz2 rfl (by decide) _ _ _ rfl (hown.alloc _) ⟨wr.heap.size, 0, none⟩ 1 1 (vic i (!f i) 0) rfl rfl (vic_new _ _ _ _) (vic_one _ _ _) (by unfold maxLen; omega) (by omega) (by have := hbl.size; simp; omega) ?_; intro v' w2 hown' hgr _)
            go_roundw
            case rel => exact ⟨i + 1, by omega, by omega, by go_num, by exact own_next hlo FE.out PE.out hown', (hbl.alloc hbl.size _).grown hgr (by simp; have := hbl.size; omega) (fun k hk => (hown.lt k hk).1)⟩
            case measure => simp [intOf]; omega
      · have hiF' : (nF : Int) ≤ (i : Int) := by omega
        by_cases hiP : i < nP
        · obtain ⟨gP, oP, eP, _, hcP⟩ := hP (by omega)
          subst eP
          have hcp := hcP i hiP
          clear hcP hP
          have hiP' : (i : Int) < (nP : Int) := by omega
          cases flip
          · have FE : Hid (flagAt nF f false i = false) := by show _ = _; simp [flagAt, hiF]
            have PE : Hid (persAt nP p i = (p i)) := by show _ = _; simp [persAt, hiP]
            go_wp2_with (at_builtin; refine wpList_append_own _ rfl (.tmp 44) (.tmp 49) 27 rfl w.heap.size 41 i0 _ 5 56 Try.underlying27 hi0 hz0 hz1 hz2 rfl (by decide) _ _ _ rfl (hown.alloc _) ⟨wr.heap.size, 0, none⟩ 1 1 (vic i false (p i)) rfl rfl (vic_new _ _ _ _) (vic_one _ _ _) (by unfold maxLen; omega) (by omega) (by have := hbl.size; simp; omega) ?_; intro v' w2 hown' hgr _)
            go_roundw
            case rel => exact ⟨i + 1, by omega, by omega, by go_num, by exact own_next hlo FE.out PE.out hown', (hbl.alloc hbl.size _).grown hgr (by simp; have := hbl.size; omega) (fun k hk => (hown.lt k hk).1)⟩
            case measure => simp [intOf]; omega
          · have FE : Hid (flagAt nF f true i = true) := by show _ = _; simp [flagAt, hiF]
            have PE : Hid (persAt nP p i = (p i)) := by show _ = _; simp [persAt, hiP]
            go_wp2_with (at_builtin; refine wpList_append_own _ rfl (.tmp 44) (.tmp 49) 27 rfl w.heap.size 41 i0 _ 5 56 Try.underlying27 hi0 hz0 hz1 hz2 rfl (by decide) _ _ _ rfl (hown.alloc _) ⟨wr.heap.size, 0, none⟩ 1 1 (vic i true (p i)) rfl rfl (vic_new _ _ _ _) (vic_one _ _ _) (by unfold maxLen; omega) (by omega) (by have := hbl.size; simp; omega) ?_; intro v' w2 hown' hgr _)
            go_roundw
            case rel => exact ⟨i + 1, by omega, by omega, by go_num, by exact own_next hlo FE.out PE.out hown', (hbl.alloc hbl.size _).grown hgr (by simp; have := hbl.size; omega) (fun k hk => (hown.lt k hk).1)⟩
            case measure => simp [intOf]; omega
        · have hiP' : (nP : Int) ≤ (i : Int) := by omega
          cases flip
          · have FE : Hid (flagAt nF f false i = false) := by show _ = _; simp [flagAt, hiF]
            have PE : Hid (persAt nP p i = 0) := by show _ = _; simp [persAt, hiP]
            go_wp2_with (at_builtin; refine wpList_append_own _ rfl (.tmp 44) (.tmp 49) 27 rfl w.heap.size 41 i0 _ 5 56 Try.underlying27 hi0 hz0 hz1 hz2 rfl (by decide) _ _ _ rfl (hown.alloc _) ⟨wr.heap.size, 0, none⟩ 1 1 (vic i false 0) rfl rfl (vic_new _ _ _ _) (vic_one _ _ _) (by unfold maxLen; omega) (by omega) (by have := hbl.size; simp; omega) ?_; intro v' w2 hown' hgr _)
            go_roundw
            case rel => exact ⟨i + 1, by omega, by omega, by go_num, by exact own_next hlo FE.out PE.out hown', (hbl.alloc hbl.size _).grown hgr (by simp; have := hbl.size; omega) (fun k hk => (hown.lt k hk).1)⟩
            case measure => simp [intOf]; omega
          · have FE : Hid (flagAt nF f true i = true) := by show _ = _; simp [flagAt, hiF]
            have PE : Hid (persAt nP p i = 0) := by show _ = _; simp [persAt, hiP]
            go_wp2_with (at_builtin; refine wpList_append_own _ rfl (.tmp 44) (.tmp 49) 27 rfl w.heap.size 41 i0 _ 5 56 Try.underlying27 hi0 hz0 hz1 hz2 rfl (by decide) _ _ _ rfl (hown.alloc _) ⟨wr.heap.size, 0, none⟩ 1 1 (vic i true 0) rfl rfl (vic_new _ _ _ _) (vic_one _ _ _) (by unfold maxLen; omega) (by omega) (by have := hbl.size; simp; omega) ?_; intro v' w2 hown' hgr _)
            go_roundw
            case rel => exact ⟨i + 1, by omega, by omega, by go_num, by exact own_next hlo FE.out PE.out hown', (hbl.alloc hbl.size _).grown hgr (by simp; have := hbl.size; omega) (fun k hk => (hown.lt k hk).1)⟩
            case measure => simp [intOf]; omega
    · go_wp2
      go_ret
      exact ⟨_, rfl, by rw [show hi = i by omega]; exact hown, hbl⟩
end Go.Proofs.Qxb6003671a
