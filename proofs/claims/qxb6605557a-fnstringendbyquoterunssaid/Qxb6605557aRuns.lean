/-
  stringEndByRuns: its walk.
-/
import Derived.Test.Qxb6605557aEnd
namespace Go.Proofs.Qxb6605557a
open Go.RowKit
set_option linter.unusedVariables false

theorem E3_q {q : UInt8} {r : List UInt8} (h : closes q (q :: r) = false) : E3 q (q :: r) = 1 + E3 q r :=
  E3_next h (fun h => by have := h.1.symm.trans h.2; exact absurd this (by decide))

theorem closes_miss {q c : UInt8} {r : List UInt8} (h : ¬ c = q) : closes q (c :: r) = false := by
  cases hc : closes q (c :: r)
  · rfl
  · cases r with
    | nil => simp [closes, List.isPrefixOf] at hc
    | cons y r => exact absurd (closes_iff.1 hc).1.symm h

theorem closes_miss1 {q c : UInt8} {r : List UInt8} (h : ¬ c = q) : closes q (q :: c :: r) = false := by
  cases hc : closes q (q :: c :: r)
  · rfl
  · exact absurd (closes_iff.1 hc).2.1.symm h
theorem closes_miss2 {q c : UInt8} {r : List UInt8} (h : ¬ c = q) : closes q (q :: q :: c :: r) = false := by
  cases hc : closes q (q :: q :: c :: r)
  · rfl
  · obtain ⟨_, _, r', e⟩ := closes_iff.1 hc
    simp only [List.cons.injEq] at e
    exact absurd e.1 h

theorem run_miss_lt {q c : UInt8} {r : List UInt8} {n : Nat} (h : ¬ c = q) (hn : n < 3) : E3 q (List.replicate n q ++ c :: r) = n + E3 q (c :: r) := by
  match n, hn with
  | 0, _ => simp
  | 1, _ => simp only [List.replicate, List.cons_append, List.nil_append]; rw [E3_q (closes_miss1 h)]
  | 2, _ => simp only [List.replicate, List.cons_append, List.nil_append]; rw [E3_q (closes_miss2 h), E3_q (closes_miss1 h)]; omega

theorem run_miss_ge {q c : UInt8} {r : List UInt8} {n : Nat} (h : ¬ c = q) (hn : 3 ≤ n) (hn4 : n ≤ 4) : E3 q (List.replicate n q ++ c :: r) = n := by
  rcases (show n = 3 ∨ n = 4 by omega) with rfl | rfl
  · simp only [List.replicate, List.cons_append, List.nil_append]; rw [E3_close (closes_three q _)]; simp [more, h]
  · simp only [List.replicate, List.cons_append, List.nil_append]; rw [E3_close (closes_three q _)]; simp [more, h]

theorem run_five {q : UInt8} {r : List UInt8} : E3 q (List.replicate 5 q ++ r) = 5 := by
  simp only [List.replicate, List.cons_append, List.nil_append]; rw [E3_close (closes_three q _)]; simp [more]

theorem run_end {q : UInt8} {n : Nat} (hn : n ≤ 4) : E3 q (List.replicate n q ++ []) = n := by
  have h2 : closes q [q, q] = false := by simp [closes, List.isPrefixOf]
  rcases (show n = 0 ∨ n = 1 ∨ n = 2 ∨ n = 3 ∨ n = 4 by omega) with rfl | rfl | rfl | rfl | rfl
  · rfl
  · rfl
  · simp only [List.replicate, List.cons_append, List.nil_append]; rw [E3_q h2]; rfl
  · simp only [List.replicate, List.cons_append, List.nil_append]; rw [E3_close (closes_three q _)]; simp [more]
  · simp only [List.replicate, List.cons_append, List.nil_append]; rw [E3_close (closes_three q _)]; simp [more]

/-- What is known at place k behind n quotes. -/
def Run3 (q : UInt8) (t : ByteArray) (res k n : Nat) : Prop := (k ≤ t.size → n ≤ k ∧ res = (k - n) + E3 q (List.replicate n q ++ t.data.toList.drop k)) ∧ (t.size < k → n = 0 ∧ res = t.size)

theorem Run3_of_At {q : UInt8} {t : ByteArray} {res k : Nat} (h : At (E3 q) t res k) : Run3 q t res k 0 :=
  ⟨fun hk => ⟨Nat.zero_le _, by simpa using h.1 hk⟩, fun hk => ⟨rfl, h.2 hk⟩⟩

theorem Run3_hit {q : UInt8} {t : ByteArray} {res k n : Nat} (hk : k < t.size) (h : Run3 q t res k n) (hq : t[k] = q) : Run3 q t res (k + 1) (n + 1) :=
  ⟨fun _ => by
    obtain ⟨h1, h2⟩ := h.1 (by omega)
    refine ⟨by omega, ?_⟩
    rw [drop_at t k hk, hq] at h2
    rw [h2, List.replicate_succ', List.append_assoc]
    simp, fun h => by omega⟩
theorem Run3_five {q : UInt8} {t : ByteArray} {res k : Nat} (hk : k ≤ t.size) (h : Run3 q t res k 5) : res = k := by
  obtain ⟨h1, h2⟩ := h.1 hk
  rw [run_five] at h2
  omega
theorem Run3_ge {q : UInt8} {t : ByteArray} {res k n : Nat} (hk : k < t.size) (h : Run3 q t res k n) (hq : ¬ t[k] = q) (h3 : 3 ≤ n) (h4 : n ≤ 4) : res = k := by
  obtain ⟨h1, h2⟩ := h.1 (by omega)
  rw [drop_at t k hk, run_miss_ge hq h3 h4] at h2
  omega
theorem Run3_lt {q : UInt8} {t : ByteArray} {res k n : Nat} (hk : k < t.size) (h : Run3 q t res k n) (hq : ¬ t[k] = q) (h3 : n < 3) : At (E3 q) t res k :=
  ⟨fun _ => by
    obtain ⟨h1, h2⟩ := h.1 (by omega)
    rw [drop_at t k hk, run_miss_lt hq h3, ← drop_at t k hk] at h2
    omega, fun h => by omega⟩
theorem Run3_end {q : UInt8} {t : ByteArray} {res k n : Nat} (hk : ¬ k < t.size) (h : Run3 q t res k n) (h4 : n ≤ 4) : res = t.size ∧ (0 < n → k = t.size) := by
  by_cases e : k = t.size
  · obtain ⟨h1, h2⟩ := h.1 (by omega)
    rw [List.drop_eq_nil_of_le (by simp; omega), run_end h4] at h2
    exact ⟨by omega, fun _ => e⟩
  · obtain ⟨h1, h2⟩ := h.2 (by omega)
    exact ⟨h2, fun h => by omega⟩

set_option maxHeartbeats 1000000 in
theorem runs_three (t : ByteArray) (i res : Nat) (q : UInt8) (w : World) (ht : t.size ≤ 1048576) (hi : i < t.size) (hq : t[i] = q) (hi3 : i + 2 < t.size) (h1 : t[i + 1] = q) (h2 : t[i + 2] = q) (hres : At (E3 q) t res (i + 3)) :
    Calls Try.prog 7 #[.string t, .int .i64 i] w fun e w' => e = .returned (.int .i64 (res : Int)) ∧ w = w' := by
  have HQ : Hid (t[i] = q) := hq
  have e1 : ((t[i + 1].toNat : Int) == (t[i].toNat : Int)) = true := by rw [h1, hq]; simp
  have e2 : ((t[i + 2].toNat : Int) == (t[i].toNat : Int)) = true := by rw [h2, hq]; simp
  have l1 : (i : Int) + 1 < (t.size : Int) := by omega
  have l2 : (i : Int) + 2 < (t.size : Int) := by omega
  clear hq h1 h2
  go_enter Try.func7, Try.ntmps7
  go_wp2
  go_loop [7, 8, 9, 10] (fun vr vs vk _ => ∃ k n rs : Nat, k ≤ t.size + 1 ∧ n ≤ 4 ∧ vk = .int .i64 k ∧ vr = .int .i64 n ∧ vs = .int .i64 rs ∧ (0 < n → rs + n = k) ∧ Run3 q t res k n) (fun _ _ vk _ => t.size + 1 - (intOf vk).toNat)
  case atStart => exact ⟨i + 3, 0, 0, by omega, by omega, by go_num, rfl, rfl, fun h => by omega, Run3_of_At hres⟩
  case round =>
    obtain ⟨k, n, rs, hk, hn, rfl, rfl, rfl, hrs, hrun⟩ := hrel
    by_cases hlt : k < t.size
    · have hlt' : (k : Int) < (t.size : Int) := by omega
      by_cases hkq : t[k] = q
      · have hx : ((t[k].toNat : Int) == (t[i].toNat : Int)) = true := by rw [hkq, HQ.out]; simp
        have hr2 := Run3_hit hlt hrun hkq
        by_cases hn4 : n = 4
        · have HE : Hid (res = k + 1) := Run3_five (by omega) (hn4 ▸ hr2)
          have hrs4 : rs + 4 = k := by have := hrs (by omega); omega
          have HS : Hid (rs + 4 = k) := hrs4
          have hrb : rs + 4 ≤ k := by omega
          clear hkq hrun hr2 hres hrs hrs4
          subst hn4
          go_wp2
          go_ret
          exact ⟨ret_int (by have h1 := HS.out; have h2 := HE.out; omega), rfl⟩
        · have b4 : (n : Int) < 4 := by omega
          by_cases h0 : n = 0
          · subst h0
            clear hkq hrun hres hrs
            go_wp2
            go_round
            case rel => exact ⟨k + 1, 1, k, by omega, by omega, by go_num, rfl, rfl, fun h => by omega, hr2⟩
            case measure => simp [intOf]; omega
          · have hne : ((n : Int) == 0) = false := by simp; omega
            have hrs4 := hrs (by omega)
            have HS : Hid (rs + n = k) := hrs4
            clear hkq hrun hres hrs hrs4 hn4 h0
            go_wp2
            go_round
            case rel => exact ⟨k + 1, n + 1, rs, by omega, by omega, by go_num, by go_num, rfl, fun h => by have := HS.out; omega, hr2⟩
            case measure => simp [intOf]; omega
      · have hx : ((t[k].toNat : Int) == (t[i].toNat : Int)) = false := by
          rw [HQ.out]
          have : t[k].toNat ≠ q.toNat := fun h => hkq (UInt8.toNat_inj.1 h)
          simp
          omega
        by_cases hn3 : n < 3
        · skip
          have hat := Run3_lt hlt hrun hkq hn3
          have hjq2 := closes_miss (r := t.data.toList.drop (k + 1)) hkq
          have b3 : (n : Int) < 3 := by omega
          by_cases h92 : t[k] = 92 ∧ q = 34
          · have hat2 := Run3_of_At (At_skip hlt hat (by rw [drop_at t k hlt]; exact E3_skip hjq2 h92))
            have hx2 : ((t[k].toNat : Int) == 92) = true := by rw [h92.1]; rfl
            have hy : ((t[i].toNat : Int) == 34) = true := by rw [HQ.out, h92.2]; rfl
            clear hjq2 h92 hat hres hkq hrun hrs
            go_wp2
            go_round
            case rel => exact ⟨k + 1 + 1, 0, rs, by omega, by omega, by go_num, rfl, rfl, fun h => by omega, hat2⟩
            case measure => simp [intOf]; omega
          · have hat2 := Run3_of_At (At_next hlt hat (by rw [drop_at t k hlt]; exact E3_next hjq2 h92))
            by_cases hq34 : q = 34
            · have hy : ((t[i].toNat : Int) == 34) = true := by rw [HQ.out, hq34]; rfl
              have hx2 : ((t[k].toNat : Int) == 92) = false := by
                have : t[k].toNat ≠ 92 := fun h => h92 ⟨UInt8.toNat_inj.1 h, hq34⟩
                simp
                omega
              clear hjq2 h92 hat hres hkq hrun hrs hq34
              go_wp2
              go_round
              case rel => exact ⟨k + 1, 0, rs, by omega, by omega, by go_num, rfl, rfl, fun h => by omega, hat2⟩
              case measure => simp [intOf]; omega
            · have hy : ((t[i].toNat : Int) == 34) = false := by
                rw [HQ.out]
                have : q.toNat ≠ 34 := fun h => hq34 (UInt8.toNat_inj.1 h)
                simp
                omega
              clear hjq2 h92 hat hres hkq hrun hrs hq34
              go_wp2
              go_round
              case rel => exact ⟨k + 1, 0, rs, by omega, by omega, by go_num, rfl, rfl, fun h => by omega, hat2⟩
              case measure => simp [intOf]; omega
        · have HE : Hid (res = k) := Run3_ge hlt hrun hkq (by omega) hn
          have b3 : (3 : Int) ≤ (n : Int) := by omega
          have hrs4 := hrs (by omega)
          have HS : Hid (rs + n = k) := hrs4
          have hrb : rs + n ≤ k := by omega
          clear hkq hrun hres hrs hrs4
          go_wp2
          go_ret
          exact ⟨ret_int (by have h1 := HS.out; have h2 := HE.out; omega), rfl⟩
    · obtain ⟨hE, hke⟩ := Run3_end hlt hrun hn
      have HE : Hid (res = t.size) := hE
      clear hE
      by_cases hn3 : n < 3
      · have b3 : (n : Int) < 3 := by omega
        clear hrun hres hrs hke
        go_wp2
        go_ret
        exact ⟨ret_int (by rw [HE.out]), rfl⟩
      · have b3 : (3 : Int) ≤ (n : Int) := by omega
        have hrs4 := hrs (by omega)
        have hkN := hke (by omega)
        have HS : Hid (rs + n = t.size) := hrs4.trans hkN
        have hrb : rs + n ≤ t.size := by omega
        clear hrun hres hrs hke hrs4 hkN
        go_wp2
        go_ret
        exact ⟨ret_int (by have h1 := HS.out; have h2 := HE.out; omega), rfl⟩

set_option maxHeartbeats 2000000 in
theorem runs_one (t : ByteArray) (i res : Nat) (q : UInt8) (w : World) (ht : t.size ≤ 1048576) (hi : i < t.size) (hq : t[i] = q) (hno : ∀ (h1 : i + 1 < t.size) (h2 : i + 2 < t.size), ¬ (t[i + 1] = q ∧ t[i + 2] = q)) (hres : At (E1 q) t res (i + 1)) :
    Calls Try.prog 7 #[.string t, .int .i64 i] w fun e w' => e = .returned (.int .i64 (res : Int)) ∧ w = w' := by
  have HQ : Hid (t[i] = q) := hq
  clear hq
  by_cases hi3 : i + 2 < t.size
  · have l1 : (i : Int) + 1 < (t.size : Int) := by omega
    have l2 : (i : Int) + 2 < (t.size : Int) := by omega
    have hl1 : i + 1 < t.size := by omega
    by_cases h1 : t[i + 1] = q
    · have h2 : ¬ t[i + 2] = q := fun h => hno hl1 hi3 ⟨h1, h⟩
      have e1 : ((t[i + 1].toNat : Int) == (t[i].toNat : Int)) = true := by rw [h1, HQ.out]; simp
      have e2 : ((t[i + 2].toNat : Int) == (t[i].toNat : Int)) = false := by
        rw [HQ.out]
        have : t[i + 2].toNat ≠ q.toNat := fun h => h2 (UInt8.toNat_inj.1 h)
        simp
        omega
      clear h1 h2 hno
      go_enter Try.func7, Try.ntmps7
      go_wp2
      go_loop [7, 8, 9, 10] (fun vr _ vk _ => ∃ k : Nat, k ≤ t.size + 1 ∧ vk = .int .i64 k ∧ vr = .int .i64 0 ∧ At (E1 q) t res k) (fun _ _ vk _ => t.size + 1 - (intOf vk).toNat)
      case atStart => exact ⟨i + 1, by omega, by go_num, rfl, hres⟩
      case round =>
        obtain ⟨k, hk, rfl, rfl, hat⟩ := hrel
        by_cases hlt : k < t.size
        · have hlt' : (k : Int) < (t.size : Int) := by omega
          by_cases hkq : t[k] = q
          · have hx : ((t[k].toNat : Int) == (t[i].toNat : Int)) = true := by rw [hkq, HQ.out]; simp
            have HE : Hid (res = k + 1) := At1_hit hlt hat hkq
            clear hkq hat hres
            go_wp2
            go_ret
            exact ⟨ret_int (by rw [HE.out]; omega), rfl⟩
          · have hx : ((t[k].toNat : Int) == (t[i].toNat : Int)) = false := by
              rw [HQ.out]
              have : t[k].toNat ≠ q.toNat := fun h => hkq (UInt8.toNat_inj.1 h)
              simp
              omega
            by_cases h92 : t[k] = 92 ∧ q = 34
            · have hat2 := At1_skip hlt hat hkq h92
              have hx2 : ((t[k].toNat : Int) == 92) = true := by rw [h92.1]; rfl
              have hy : ((t[i].toNat : Int) == 34) = true := by rw [HQ.out, h92.2]; rfl
              clear h92 hat hres hkq
              go_wp2
              go_round
              case rel => exact ⟨k + 1 + 1, by omega, by go_num, rfl, hat2⟩
              case measure => simp [intOf]; omega
            · have hat2 := At1_next hlt hat hkq h92
              by_cases hq34 : q = 34
              · have hy : ((t[i].toNat : Int) == 34) = true := by rw [HQ.out, hq34]; rfl
                have hx2 : ((t[k].toNat : Int) == 92) = false := by
                  have : t[k].toNat ≠ 92 := fun h => h92 ⟨UInt8.toNat_inj.1 h, hq34⟩
                  simp
                  omega
                clear h92 hat hres hkq hq34
                go_wp2
                go_round
                case rel => exact ⟨k + 1, by omega, by go_num, rfl, hat2⟩
                case measure => simp [intOf]; omega
              · have hy : ((t[i].toNat : Int) == 34) = false := by
                  rw [HQ.out]
                  have : q.toNat ≠ 34 := fun h => hq34 (UInt8.toNat_inj.1 h)
                  simp
                  omega
                clear h92 hat hres hkq hq34
                go_wp2
                go_round
                case rel => exact ⟨k + 1, by omega, by go_num, rfl, hat2⟩
                case measure => simp [intOf]; omega
        · have HE : Hid (res = t.size) := At1_end hlt hat
          clear hat hres
          go_wp2
          go_ret
          exact ⟨ret_int (by rw [HE.out]), rfl⟩
    · have e1 : ((t[i + 1].toNat : Int) == (t[i].toNat : Int)) = false := by
        rw [HQ.out]
        have : t[i + 1].toNat ≠ q.toNat := fun h => h1 (UInt8.toNat_inj.1 h)
        simp
        omega
      clear h1 hno
      go_enter Try.func7, Try.ntmps7
      go_wp2
      go_loop [7, 8, 9, 10] (fun vr _ vk _ => ∃ k : Nat, k ≤ t.size + 1 ∧ vk = .int .i64 k ∧ vr = .int .i64 0 ∧ At (E1 q) t res k) (fun _ _ vk _ => t.size + 1 - (intOf vk).toNat)
      case atStart => exact ⟨i + 1, by omega, by go_num, rfl, hres⟩
      case round =>
        obtain ⟨k, hk, rfl, rfl, hat⟩ := hrel
        by_cases hlt : k < t.size
        · have hlt' : (k : Int) < (t.size : Int) := by omega
          by_cases hkq : t[k] = q
          · have hx : ((t[k].toNat : Int) == (t[i].toNat : Int)) = true := by rw [hkq, HQ.out]; simp
            have HE : Hid (res = k + 1) := At1_hit hlt hat hkq
            clear hkq hat hres
            go_wp2
            go_ret
            exact ⟨ret_int (by rw [HE.out]; omega), rfl⟩
          · have hx : ((t[k].toNat : Int) == (t[i].toNat : Int)) = false := by
              rw [HQ.out]
              have : t[k].toNat ≠ q.toNat := fun h => hkq (UInt8.toNat_inj.1 h)
              simp
              omega
            by_cases h92 : t[k] = 92 ∧ q = 34
            · have hat2 := At1_skip hlt hat hkq h92
              have hx2 : ((t[k].toNat : Int) == 92) = true := by rw [h92.1]; rfl
              have hy : ((t[i].toNat : Int) == 34) = true := by rw [HQ.out, h92.2]; rfl
              clear h92 hat hres hkq
              go_wp2
              go_round
              case rel => exact ⟨k + 1 + 1, by omega, by go_num, rfl, hat2⟩
              case measure => simp [intOf]; omega
            · have hat2 := At1_next hlt hat hkq h92
              by_cases hq34 : q = 34
              · have hy : ((t[i].toNat : Int) == 34) = true := by rw [HQ.out, hq34]; rfl
                have hx2 : ((t[k].toNat : Int) == 92) = false := by
                  have : t[k].toNat ≠ 92 := fun h => h92 ⟨UInt8.toNat_inj.1 h, hq34⟩
                  simp
                  omega
                clear h92 hat hres hkq hq34
                go_wp2
                go_round
                case rel => exact ⟨k + 1, by omega, by go_num, rfl, hat2⟩
                case measure => simp [intOf]; omega
              · have hy : ((t[i].toNat : Int) == 34) = false := by
                  rw [HQ.out]
                  have : q.toNat ≠ 34 := fun h => hq34 (UInt8.toNat_inj.1 h)
                  simp
                  omega
                clear h92 hat hres hkq hq34
                go_wp2
                go_round
                case rel => exact ⟨k + 1, by omega, by go_num, rfl, hat2⟩
                case measure => simp [intOf]; omega
        · have HE : Hid (res = t.size) := At1_end hlt hat
          clear hat hres
          go_wp2
          go_ret
          exact ⟨ret_int (by rw [HE.out]), rfl⟩
  · have l2 : (t.size : Int) ≤ (i : Int) + 2 := by omega
    clear hno
    go_enter Try.func7, Try.ntmps7
    go_wp2
    go_loop [7, 8, 9, 10] (fun vr _ vk _ => ∃ k : Nat, k ≤ t.size + 1 ∧ vk = .int .i64 k ∧ vr = .int .i64 0 ∧ At (E1 q) t res k) (fun _ _ vk _ => t.size + 1 - (intOf vk).toNat)
    case atStart => exact ⟨i + 1, by omega, by go_num, rfl, hres⟩
    case round =>
      obtain ⟨k, hk, rfl, rfl, hat⟩ := hrel
      by_cases hlt : k < t.size
      · have hlt' : (k : Int) < (t.size : Int) := by omega
        by_cases hkq : t[k] = q
        · have hx : ((t[k].toNat : Int) == (t[i].toNat : Int)) = true := by rw [hkq, HQ.out]; simp
          have HE : Hid (res = k + 1) := At1_hit hlt hat hkq
          clear hkq hat hres
          go_wp2
          go_ret
          exact ⟨ret_int (by rw [HE.out]; omega), rfl⟩
        · have hx : ((t[k].toNat : Int) == (t[i].toNat : Int)) = false := by
            rw [HQ.out]
            have : t[k].toNat ≠ q.toNat := fun h => hkq (UInt8.toNat_inj.1 h)
            simp
            omega
          by_cases h92 : t[k] = 92 ∧ q = 34
          · have hat2 := At1_skip hlt hat hkq h92
            have hx2 : ((t[k].toNat : Int) == 92) = true := by rw [h92.1]; rfl
            have hy : ((t[i].toNat : Int) == 34) = true := by rw [HQ.out, h92.2]; rfl
            clear h92 hat hres hkq
            go_wp2
            go_round
            case rel => exact ⟨k + 1 + 1, by omega, by go_num, rfl, hat2⟩
            case measure => simp [intOf]; omega
          · have hat2 := At1_next hlt hat hkq h92
            by_cases hq34 : q = 34
            · have hy : ((t[i].toNat : Int) == 34) = true := by rw [HQ.out, hq34]; rfl
              have hx2 : ((t[k].toNat : Int) == 92) = false := by
                have : t[k].toNat ≠ 92 := fun h => h92 ⟨UInt8.toNat_inj.1 h, hq34⟩
                simp
                omega
              clear h92 hat hres hkq hq34
              go_wp2
              go_round
              case rel => exact ⟨k + 1, by omega, by go_num, rfl, hat2⟩
              case measure => simp [intOf]; omega
            · have hy : ((t[i].toNat : Int) == 34) = false := by
                rw [HQ.out]
                have : q.toNat ≠ 34 := fun h => hq34 (UInt8.toNat_inj.1 h)
                simp
                omega
              clear h92 hat hres hkq hq34
              go_wp2
              go_round
              case rel => exact ⟨k + 1, by omega, by go_num, rfl, hat2⟩
              case measure => simp [intOf]; omega
      · have HE : Hid (res = t.size) := At1_end hlt hat
        clear hat hres
        go_wp2
        go_ret
        exact ⟨ret_int (by rw [HE.out]), rfl⟩

theorem closes_drop (t : ByteArray) (i : Nat) (q : UInt8) (hi : i < t.size) (hq : t[i] = q) :
    (closes q (t.data.toList.drop i) = true → ∃ (h1 : i + 1 < t.size) (h2 : i + 2 < t.size), t[i + 1] = q ∧ t[i + 2] = q) ∧
    (closes q (t.data.toList.drop i) = false → ∀ (h1 : i + 1 < t.size) (h2 : i + 2 < t.size), ¬ (t[i + 1] = q ∧ t[i + 2] = q)) := by
  constructor
  · intro hcl
    have h0 : [q, q, q] <+: t.data.toList.drop i := List.isPrefixOf_iff_prefix.1 hcl
    have hl := h0.length_le
    simp at hl
    have h1 : i + 1 < t.size := by omega
    have h2 : i + 2 < t.size := by omega
    rw [drop_at t i hi, drop_at t (i + 1) h1, drop_at t (i + 2) h2] at hcl
    obtain ⟨a, b, r', c⟩ := closes_iff.1 hcl
    simp only [List.cons.injEq] at c
    exact ⟨h1, h2, b.symm, c.1⟩
  · rintro hcl h1 h2 ⟨e1, e2⟩
    rw [drop_at t i hi, drop_at t (i + 1) h1, drop_at t (i + 2) h2, hq, e1, e2, closes_three] at hcl
    cases hcl

theorem runs_any (t : ByteArray) (i : Nat) (q : UInt8) (w : World) (ht : t.size ≤ 1048576) (hi : i < t.size) (hq : t[i] = q) :
    Calls Try.prog 7 #[.string t, .int .i64 i] w fun e w' => e = .returned (.int .i64 ((i + fin q (t.data.toList.drop i) : Nat) : Int)) ∧ w = w' := by
  have hd := closes_drop t i q hi hq
  cases hcl : closes q (t.data.toList.drop i)
  · refine runs_one t i _ q w ht hi hq (hd.2 hcl) ⟨fun _ => ?_, fun h => by omega⟩
    unfold fin
    rw [hcl, List.drop_drop]
    simp
    omega
  · obtain ⟨h1, h2, e1, e2⟩ := hd.1 hcl
    refine runs_three t i _ q w ht hi hq h2 e1 e2 ⟨fun _ => ?_, fun h => by omega⟩
    unfold fin
    rw [hcl, List.drop_drop]
    simp
    omega

set_option maxHeartbeats 1000000 in
theorem byRuns_top (t : ByteArray) (i : Int) (ht : t.size ≤ maxLen) (w : World) :
    Calls Try.prog 3 #[.string t, .int .i64 i] w fun e w' => e = .returned (.bool true) ∧ Below w.heap.size w w' := by
  have hz := fun w => zz5_any t i w ht
  unfold maxLen at ht
  by_cases hi : 0 ≤ i ∧ i < t.size
  · obtain ⟨n, rfl⟩ := Int.eq_ofNat_of_zero_le hi.1
    have hn : n < t.size := by omega
    have hn' : (n : Int) < (t.size : Int) := by omega
    clear hi
    by_cases hs : t.size ≤ 1048576
    · have G1 := fun w => zzStringEnd_any t n t[n] w hs hn rfl
      have G2 := fun w => runs_any t n t[n] w hs hn rfl
      generalize n + fin t[n] (t.data.toList.drop n) = res at G1 G2
      go_enter Try.func3, Try.ntmps3
      go_wp2_with (first | (go_at_call 5; refine (hz _).mono ?_; rintro e w' ⟨r, rfl, rfl, hsum⟩) | (go_at_call 6; refine (G1 _).mono ?_; rintro e w1 ⟨rfl, hb1⟩) | (go_at_call 7; refine (G2 _).mono ?_; rintro e w2 ⟨rfl, rfl⟩))
      all_goals
        go_ret
        first | exact ⟨rfl, Below.refl _ _⟩ | exact ⟨by first | rfl | simp, by assumption⟩
    · have hs' : (1048576 : Int) < (t.size : Int) := by omega
      go_enter Try.func3, Try.ntmps3
      go_wp2_with (go_at_call 5; refine (hz _).mono ?_; rintro e w' ⟨r, rfl, rfl, hsum⟩)
      all_goals (go_ret; exact ⟨rfl, Below.refl _ _⟩)
  · by_cases h0 : i < 0
    · clear hi
      go_enter Try.func3, Try.ntmps3
      go_wp2_with (go_at_call 5; refine (hz _).mono ?_; rintro e w' ⟨r, rfl, rfl, hsum⟩)
      all_goals (go_ret; exact ⟨rfl, Below.refl _ _⟩)
    · have h1 : (t.size : Int) ≤ i := by omega
      clear hi
      go_enter Try.func3, Try.ntmps3
      go_wp2_with (go_at_call 5; refine (hz _).mono ?_; rintro e w' ⟨r, rfl, rfl, hsum⟩)
      all_goals (go_ret; exact ⟨rfl, Below.refl _ _⟩)
end Go.Proofs.Qxb6605557a
