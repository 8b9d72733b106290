/-
  stringEnd: its walk.
-/
import Derived.Test.Qxb6605557aRows
import Derived.Test.Qxb6605557aShelf
import Derived.Test.Qxb6605557aPlain
import Derived.WalkKit
import Derived.WalkLawsBesides
import Derived.WalkSpells
import Derived.LoopTactic
import Derived.Deep.QuietTactic
import Derived.BigQuiet
import Derived.Lib.IndexBytes
namespace Go.Proofs.Qxb6605557a
open Go.RowKit
set_option linter.unusedVariables false

theorem zz5_any (t : ByteArray) (i : Int) (w : World) (ht : t.size ≤ maxLen) :
    Calls Try.prog 5 #[.string t, .int .i64 i] w fun en w' => ∃ r : Bool, en = .returned (.bool r) ∧ w = w' ∧ (r = true → t.size ≤ 1048576) := by
  unfold maxLen at ht
  go_enter Try.func5, Try.ntmps5
  go_wp2
  all_goals (go_ret; exact ⟨_, rfl, rfl, fun h => by first | omega | cases h⟩)

theorem zz8_any (t : ByteArray) (i : Int) (p : ByteArray) (w : World) (ht : t.size ≤ maxLen) (hp : p.size ≤ maxLen) :
    Calls Try.prog 8 #[.string t, .int .i64 i, .string p] w fun en w' => ∃ r : Bool, en = .returned (.bool r) ∧ w = w' ∧ (r = true → t.size + p.size ≤ 1048576) := by
  unfold maxLen at ht hp
  go_enter Try.func8, Try.ntmps8
  go_wp2
  all_goals (go_ret; exact ⟨_, rfl, rfl, fun h => by first | omega | cases h⟩)

theorem ret_int {k : IntKind} {a b : Int} (h : a = b) : Ending.returned (.int k a) = .returned (.int k b) := by rw [h]

theorem prefix_at (t d : ByteArray) (k : Nat) (w : World) (b : Bool) (h : d.data.toList.isPrefixOf (t.data.toList.drop k) = b) :
    Calls Try.prog 11 #[.string (t.extract k t.size), .string d] w fun e w' => e = .returned (.bool b) ∧ w = w' :=
  (Try.strings_HasPrefix (t.extract k t.size) d w).mono fun e w' ⟨h1, h2⟩ => ⟨by rw [h1, Lib.extract_to_end, Lib.hasPrefix, h], h2.symm⟩

theorem drop_at (t : ByteArray) (j : Nat) (hj : j < t.size) : t.data.toList.drop j = t[j] :: t.data.toList.drop (j + 1) :=
  List.drop_eq_getElem_cons (by simpa using hj)

theorem one_data (t : ByteArray) (i : Nat) (hi : i < t.size) : (t.extract i (i + 1)).data.toList = [t[i]] := by
  rw [Lib.extract_data, drop_at t i hi, show i + 1 - i = 1 by omega]; rfl

theorem E1_nil {q : UInt8} {l : List UInt8} (h : l = []) : E1 q l = 0 := by subst h; rfl
theorem E1_hit {q x : UInt8} {r : List UInt8} (h : x = q) : E1 q (x :: r) = 1 := by
  cases r <;> simp [E1, h]
theorem E1_skip {q x : UInt8} {r : List UInt8} (h : ¬ x = q) (h2 : x = 92 ∧ q = 34) : E1 q (x :: r) = if r = [] then 1 else 2 + E1 q (r.drop 1) := by
  cases r <;> simp [E1, h2.1, h2.2]
theorem E1_next {q x : UInt8} {r : List UInt8} (h : ¬ x = q) (h2 : ¬ (x = 92 ∧ q = 34)) : E1 q (x :: r) = 1 + E1 q r := by
  cases r <;> simp [E1, h, h2]

/-- What is known at place j of the scan. -/
def At (E : List UInt8 → Nat) (t : ByteArray) (res j : Nat) : Prop := (j ≤ t.size → res = j + E (t.data.toList.drop j)) ∧ (t.size < j → res = t.size)

theorem At1_next {q : UInt8} {t : ByteArray} {res j : Nat} (hj : j < t.size) (h : At (E1 q) t res j) (h1 : ¬ t[j] = q) (h2 : ¬ (t[j] = 92 ∧ q = 34)) : At (E1 q) t res (j + 1) :=
  ⟨fun _ => by have := h.1 (by omega); rw [drop_at t j hj, E1_next h1 h2] at this; omega, fun h => by omega⟩
theorem At1_skip {q : UInt8} {t : ByteArray} {res j : Nat} (hj : j < t.size) (h : At (E1 q) t res j) (h1 : ¬ t[j] = q) (h2 : t[j] = 92 ∧ q = 34) : At (E1 q) t res (j + 1 + 1) := by
  have h0 := h.1 (by omega)
  rw [drop_at t j hj, E1_skip h1 h2] at h0
  by_cases hn : t.data.toList.drop (j + 1) = []
  · have hl : t.size ≤ j + 1 := by have := congrArg List.length hn; simp at this; omega
    rw [if_pos hn] at h0
    exact ⟨fun h => by omega, fun _ => by omega⟩
  · have hl : j + 1 < t.size := by
      by_cases h : j + 1 < t.size
      · exact h
      · exact absurd (List.drop_eq_nil_of_le (by simp; omega)) hn
    rw [if_neg hn, List.drop_drop] at h0
    exact ⟨fun _ => by rw [h0, show j + 1 + 1 = 1 + (j + 1) by omega]; simp only [Nat.add_comm 1]; omega, fun h => by omega⟩
theorem At1_hit {q : UInt8} {t : ByteArray} {res j : Nat} (hj : j < t.size) (h : At (E1 q) t res j) (h1 : t[j] = q) : res = j + 1 := by
  have := h.1 (by omega)
  rw [drop_at t j hj, E1_hit h1] at this
  exact this
theorem At1_end {q : UInt8} {t : ByteArray} {res j : Nat} (hj : ¬ j < t.size) (h : At (E1 q) t res j) : res = t.size := by
  by_cases e : j = t.size
  · have := h.1 (by omega)
    rw [E1_nil (List.drop_eq_nil_of_le (by simp; omega))] at this
    omega
  · exact h.2 (by omega)

set_option maxHeartbeats 1000000 in
theorem stringEnd_one (t : ByteArray) (i res : Nat) (q : UInt8) (w : World) (ht : t.size ≤ 1048576) (hi : i < t.size) (hq : t[i] = q) (hcl : closes q (t.data.toList.drop i) = false) (hres : At (E1 q) t res (i + 1)) :
    Calls Try.prog 9 #[.string t, .int .i64 i] w fun e w' => e = .returned (.int .i64 (res : Int)) ∧ Below w.heap.size w w' := by
  have HQ : Hid (t[i] = q) := hq
  have hR := Try.strings_Repeat (t.extract i (i + 1)) 3 w (by decide) (by rw [Lib.size_eq, one_data t i hi]; simp)
  have hd3 : (⟨(Lib.repeatL (t.extract i (i + 1)).data.toList 3).toArray⟩ : ByteArray).data.toList = [q, q, q] := by rw [one_data t i hi, hq]; rfl
  have hd1 := one_data t i hi
  rw [hq] at hd1
  generalize (⟨(Lib.repeatL (t.extract i (i + 1)).data.toList 3).toArray⟩ : ByteArray) = d3 at hR hd3
  have hP := fun w => prefix_at t d3 i w false (by rw [hd3]; exact hcl)
  clear hq hcl
  go_enter Try.func9, Try.ntmps9
  go_wp2_with fail
  generalize t.extract i (i + 1) = d1 at hR hd1 ⊢
  have hs1 : d1.size = 1 := by rw [Lib.size_eq, hd1]; rfl
  have H1 : Hid (d1.data.toList = [q]) := hd1
  clear hd1 hd3
  refine hR.mono ?_
  rintro e w1 ⟨rfl, hb⟩
  clear hR
  go_wp2_with fail
  refine (hP _).mono ?_
  rintro e w' ⟨rfl, rfl⟩
  clear hP
  go_wp2_with fail
  go_loop [8] (fun v => ∃ j : Nat, j ≤ t.size + 1 ∧ v = .int .i64 j ∧ At (E1 q) t res j) (fun v => t.size + 1 - (intOf v).toNat)
  case atStart => exact ⟨i + 1, by omega, by go_num, hres⟩
  case round =>
    obtain ⟨j, hj, rfl, hat⟩ := hrel
    by_cases hlt : j < t.size
    · have hlt' : (j : Int) < (t.size : Int) := by omega
      by_cases hjq : t[j] = q
      · have hp := fun w => prefix_at t d1 j w true (by rw [H1.out, drop_at t j hlt, hjq]; simp [List.isPrefixOf])
        have HR : Hid (res = j + 1) := At1_hit hlt hat hjq
        clear hjq hat hres
        go_wp2_with (go_at_call 11; refine (hp _).mono ?_; rintro e w' ⟨rfl, rfl⟩)
        refine wp_loop_rounds 1 ?_
        rw [rounds_succ]
        go_wp2
        go_ret
        exact ⟨ret_int (by rw [HR.out]; omega), hb⟩
      · have hp := fun w => prefix_at t d1 j w false (by rw [H1.out, drop_at t j hlt]; simpa [List.isPrefixOf] using fun h => hjq h.symm)
        by_cases h92 : t[j] = 92 ∧ q = 34
        · have hat2 := At1_skip hlt hat hjq h92
          have hx : ((t[j].toNat : Int) == 92) = true := by rw [h92.1]; rfl
          have hy : ((t[i].toNat : Int) == 34) = true := by rw [HQ.out, h92.2]; rfl
          clear hjq h92 hat hres
          go_wp2_with (go_at_call 11; refine (hp _).mono ?_; rintro e w' ⟨rfl, rfl⟩)
          go_round
          case rel => exact ⟨j + 1 + 1, by omega, by go_num, hat2⟩
          case measure => simp [intOf]; omega
        · have hat2 := At1_next hlt hat hjq h92
          by_cases hx : t[j] = 92
          · have hx' : ((t[j].toNat : Int) == 92) = true := by rw [hx]; rfl
            have hy : ((t[i].toNat : Int) == 34) = false := by
              have hq2 : ¬ q = 34 := fun h => h92 ⟨hx, h⟩
              rw [HQ.out]
              have : q.toNat ≠ 34 := fun h => hq2 (UInt8.toNat_inj.1 h)
              simp
              omega
            clear hjq h92 hat hres hx
            go_wp2_with (go_at_call 11; refine (hp _).mono ?_; rintro e w' ⟨rfl, rfl⟩)
            go_round
            case rel => exact ⟨j + 1, by omega, by go_num, hat2⟩
            case measure => simp [intOf]; omega
          · have hx' : ((t[j].toNat : Int) == 92) = false := by
              have : t[j].toNat ≠ 92 := fun h => hx (UInt8.toNat_inj.1 h)
              simp
              omega
            clear hjq h92 hat hres hx
            go_wp2_with (go_at_call 11; refine (hp _).mono ?_; rintro e w' ⟨rfl, rfl⟩)
            go_round
            case rel => exact ⟨j + 1, by omega, by go_num, hat2⟩
            case measure => simp [intOf]; omega
    · have HR : Hid (res = t.size) := At1_end hlt hat
      clear hat hres
      go_wp2
      go_ret
      exact ⟨ret_int (by rw [HR.out]), hb⟩

theorem E3_close {q x : UInt8} {r : List UInt8} (h : closes q (x :: r) = true) : E3 q (x :: r) = 3 + more q 2 ((x :: r).drop 3) := by
  cases r with
  | nil => simp [closes, List.isPrefixOf] at h
  | cons y r => simp [E3, h]
theorem E3_skip {q x : UInt8} {r : List UInt8} (h : closes q (x :: r) = false) (h2 : x = 92 ∧ q = 34) : E3 q (x :: r) = if r = [] then 1 else 2 + E3 q (r.drop 1) := by
  cases r with
  | nil => simp [E3]
  | cons y r => simp only [E3, h, if_pos h2]; simp
theorem E3_next {q x : UInt8} {r : List UInt8} (h : closes q (x :: r) = false) (h2 : ¬ (x = 92 ∧ q = 34)) : E3 q (x :: r) = 1 + E3 q r := by
  cases r with
  | nil => simp [E3]
  | cons y r => simp only [E3, h, if_neg h2]; simp

theorem At_next {E : List UInt8 → Nat} {t : ByteArray} {res j : Nat} (hj : j < t.size) (h : At E t res j) (h1 : E (t.data.toList.drop j) = 1 + E (t.data.toList.drop (j + 1))) : At E t res (j + 1) :=
  ⟨fun _ => by have := h.1 (by omega); rw [h1] at this; omega, fun h => by omega⟩
theorem At_skip {E : List UInt8 → Nat} {t : ByteArray} {res j : Nat} (hj : j < t.size) (h : At E t res j) (h1 : E (t.data.toList.drop j) = if t.data.toList.drop (j + 1) = [] then 1 else 2 + E ((t.data.toList.drop (j + 1)).drop 1)) : At E t res (j + 1 + 1) := by
  have h0 := h.1 (by omega)
  rw [h1] at h0
  by_cases hn : t.data.toList.drop (j + 1) = []
  · have hl : t.size ≤ j + 1 := by have := congrArg List.length hn; simp at this; omega
    rw [if_pos hn] at h0
    exact ⟨fun h => by omega, fun _ => by omega⟩
  · have hl : j + 1 < t.size := by
      by_cases h : j + 1 < t.size
      · exact h
      · exact absurd (List.drop_eq_nil_of_le (by simp; omega)) hn
    rw [if_neg hn, List.drop_drop] at h0
    exact ⟨fun _ => by rw [h0]; omega, fun h => by omega⟩
theorem At_end {E : List UInt8 → Nat} {t : ByteArray} {res j : Nat} (hE : E [] = 0) (hj : ¬ j < t.size) (h : At E t res j) : res = t.size := by
  by_cases e : j = t.size
  · have := h.1 (by omega)
    rw [List.drop_eq_nil_of_le (by simp; omega), hE] at this
    omega
  · exact h.2 (by omega)

theorem more_zero (q : UInt8) (l : List UInt8) : more q 0 l = 0 := by cases l <;> rfl
theorem more_nil (q : UInt8) (c : Nat) : more q c [] = 0 := by cases c <;> rfl
theorem more_step {q : UInt8} {t : ByteArray} {e c : Nat} (he : e < t.size) (h : t[e] = q) : more q (c + 1) (t.data.toList.drop e) = 1 + more q c (t.data.toList.drop (e + 1)) := by
  rw [drop_at t e he]; simp [more, h]
theorem more_stop {q : UInt8} {t : ByteArray} {e c : Nat} (he : e < t.size) (h : ¬ t[e] = q) : more q c (t.data.toList.drop e) = 0 := by
  rw [drop_at t e he]
  cases c <;> simp [more, h]

set_option maxHeartbeats 1000000 in
theorem stringEnd_three (t : ByteArray) (i res : Nat) (q : UInt8) (w : World) (ht : t.size ≤ 1048576) (hi : i < t.size) (hq : t[i] = q) (hcl : closes q (t.data.toList.drop i) = true) (hi3 : i + 3 ≤ t.size) (hres : At (E3 q) t res (i + 3)) :
    Calls Try.prog 9 #[.string t, .int .i64 i] w fun e w' => e = .returned (.int .i64 (res : Int)) ∧ Below w.heap.size w w' := by
  have HQ : Hid (t[i] = q) := hq
  have hR := Try.strings_Repeat (t.extract i (i + 1)) 3 w (by decide) (by rw [Lib.size_eq, one_data t i hi]; simp)
  have hd3 : (⟨(Lib.repeatL (t.extract i (i + 1)).data.toList 3).toArray⟩ : ByteArray).data.toList = [q, q, q] := by rw [one_data t i hi, hq]; rfl
  generalize (⟨(Lib.repeatL (t.extract i (i + 1)).data.toList 3).toArray⟩ : ByteArray) = d3 at hR hd3
  have hP := fun w => prefix_at t d3 i w true (by rw [hd3]; exact hcl)
  have hs3 : d3.size = 3 := by rw [Lib.size_eq, hd3]; rfl
  have H3 : Hid (d3.data.toList = [q, q, q]) := hd3
  clear hq hcl hd3
  go_enter Try.func9, Try.ntmps9
  go_wp2_with fail
  generalize t.extract i (i + 1) = d1 at hR ⊢
  refine hR.mono ?_
  rintro e w1 ⟨rfl, hb⟩
  clear hR
  go_wp2_with fail
  refine (hP _).mono ?_
  rintro e w' ⟨rfl, rfl⟩
  clear hP
  go_wp2_with fail
  go_loop [8, 9] (fun v _ => ∃ j : Nat, j ≤ t.size + 1 ∧ v = .int .i64 j ∧ At (E3 q) t res j) (fun v _ => t.size + 1 - (intOf v).toNat)
  case atStart => exact ⟨i + 3, by omega, by go_num, hres⟩
  case round =>
    obtain ⟨j, hj, rfl, hat⟩ := hrel
    by_cases hlt : j < t.size
    · have hlt' : (j : Int) < (t.size : Int) := by omega
      by_cases hjq : closes q (t.data.toList.drop j) = true
      · have hp := fun w => prefix_at t d3 j w true (by rw [H3.out]; exact hjq)
        have HR : Hid (res = j + 3 + more q 2 (t.data.toList.drop (j + 3))) := by
          have h0 := hat.1 (by omega)
          rw [drop_at t j hlt] at hjq h0
          rw [E3_close hjq, ← drop_at t j hlt, List.drop_drop] at h0
          show _ = _
          omega
        clear hjq hat hres
        go_wp2_with (go_at_call 11; refine (hp _).mono ?_; rintro e w' ⟨rfl, rfl⟩)
        clear hp
        go_loop [9] (fun v => ∃ k : Nat, k ≤ 2 ∧ v = .int .i64 ((j : Int) + 3 + k) ∧ Hid (res = j + 3 + k + more q (2 - k) (t.data.toList.drop (j + 3 + k)))) (fun v => (j : Nat) + 5 - (intOf v).toNat)
        case atStart => exact ⟨0, by omega, by go_num, HR⟩
        case round =>
          obtain ⟨k, hk, rfl, HK⟩ := hrel
          by_cases c1 : k < 2
          · have c1' : (j : Int) + 3 + (k : Int) < (j : Int) + 5 := by omega
            by_cases c2 : j + 3 + k < t.size
            · have c2' : (j : Int) + 3 + (k : Int) < (t.size : Int) := by omega
              by_cases c3 : t[j + 3 + k] = q
              · have hx : ((t[j + 3 + k].toNat : Int) == (t[i].toNat : Int)) = true := by rw [c3, HQ.out]; simp
                have HK2 : Hid (res = j + 3 + (k + 1) + more q (2 - (k + 1)) (t.data.toList.drop (j + 3 + (k + 1)))) := by
                  have := HK.out
                  rw [show 2 - k = (2 - (k + 1)) + 1 by omega, more_step c2 c3] at this
                  show _ = _
                  rw [show j + 3 + (k + 1) = j + 3 + k + 1 by omega]
                  omega
                clear HK c3
                go_wp2
                go_round
                case rel => exact ⟨k + 1, by omega, by go_num, HK2⟩
                case measure => simp [intOf]; omega
              · have hx : ((t[j + 3 + k].toNat : Int) == (t[i].toNat : Int)) = false := by
                  rw [HQ.out]
                  have : t[j + 3 + k].toNat ≠ q.toNat := fun h => c3 (UInt8.toNat_inj.1 h)
                  simp
                  omega
                have HE : Hid (res = j + 3 + k) := by
                  have := HK.out
                  rw [more_stop c2 c3] at this
                  exact this
                clear HK c3
                go_wp2
                go_ret
                exact ⟨ret_int (by rw [HE.out]; omega), hb⟩
            · have c2' : (t.size : Int) ≤ (j : Int) + 3 + (k : Int) := by omega
              have HE : Hid (res = j + 3 + k) := by
                have := HK.out
                rw [List.drop_eq_nil_of_le (by simp; omega), more_nil] at this
                exact this
              clear HK
              go_wp2
              go_ret
              exact ⟨ret_int (by rw [HE.out]; omega), hb⟩
          · have c1' : (j : Int) + 5 ≤ (j : Int) + 3 + (k : Int) := by omega
            have HE : Hid (res = j + 3 + k) := by
              have := HK.out
              rw [show 2 - k = 0 by omega, more_zero] at this
              exact this
            clear HK
            go_wp2
            go_ret
            exact ⟨ret_int (by rw [HE.out]; omega), hb⟩
      · have hjq : closes q (t.data.toList.drop j) = false := by simpa using hjq
        have hp := fun w => prefix_at t d3 j w false (by rw [H3.out]; exact hjq)
        have hjq2 := hjq
        rw [drop_at t j hlt] at hjq2
        by_cases h92 : t[j] = 92 ∧ q = 34
        · have hat2 := At_skip hlt hat (by rw [drop_at t j hlt]; exact E3_skip hjq2 h92)
          have hx : ((t[j].toNat : Int) == 92) = true := by rw [h92.1]; rfl
          have hy : ((t[i].toNat : Int) == 34) = true := by rw [HQ.out, h92.2]; rfl
          clear hjq hjq2 h92 hat hres
          go_wp2_with (go_at_call 11; refine (hp _).mono ?_; rintro e w' ⟨rfl, rfl⟩)
          go_round
          case rel => exact ⟨j + 1 + 1, by omega, by go_num, hat2⟩
          case measure => simp [intOf]; omega
        · have hat2 := At_next hlt hat (by rw [drop_at t j hlt]; exact E3_next hjq2 h92)
          by_cases hx : t[j] = 92
          · have hx' : ((t[j].toNat : Int) == 92) = true := by rw [hx]; rfl
            have hy : ((t[i].toNat : Int) == 34) = false := by
              have hq2 : ¬ q = 34 := fun h => h92 ⟨hx, h⟩
              rw [HQ.out]
              have : q.toNat ≠ 34 := fun h => hq2 (UInt8.toNat_inj.1 h)
              simp
              omega
            clear hjq hjq2 h92 hat hres hx
            go_wp2_with (go_at_call 11; refine (hp _).mono ?_; rintro e w' ⟨rfl, rfl⟩)
            go_round
            case rel => exact ⟨j + 1, by omega, by go_num, hat2⟩
            case measure => simp [intOf]; omega
          · have hx' : ((t[j].toNat : Int) == 92) = false := by
              have : t[j].toNat ≠ 92 := fun h => hx (UInt8.toNat_inj.1 h)
              simp
              omega
            clear hjq hjq2 h92 hat hres hx
            go_wp2_with (go_at_call 11; refine (hp _).mono ?_; rintro e w' ⟨rfl, rfl⟩)
            go_round
            case rel => exact ⟨j + 1, by omega, by go_num, hat2⟩
            case measure => simp [intOf]; omega
    · have HR : Hid (res = t.size) := At_end rfl hlt hat
      clear hat hres
      go_wp2
      go_ret
      exact ⟨ret_int (by rw [HR.out]), hb⟩

/-- stringEnd, and its alias. -/
theorem stringEnd_any (t : ByteArray) (i : Nat) (q : UInt8) (w : World) (ht : t.size ≤ 1048576) (hi : i < t.size) (hq : t[i] = q) :
    Calls Try.prog 9 #[.string t, .int .i64 i] w fun e w' => e = .returned (.int .i64 ((i + fin q (t.data.toList.drop i) : Nat) : Int)) ∧ Below w.heap.size w w' := by
  cases hcl : closes q (t.data.toList.drop i)
  · refine stringEnd_one t i _ q w ht hi hq hcl ⟨fun _ => ?_, fun h => by omega⟩
    unfold fin
    rw [hcl, List.drop_drop]
    simp
    omega
  · have h3 : i + 3 ≤ t.size := by
      have h1 : [q, q, q] <+: t.data.toList.drop i := List.isPrefixOf_iff_prefix.1 hcl
      have := h1.length_le
      simp at this
      omega
    refine stringEnd_three t i _ q w ht hi hq hcl h3 ⟨fun _ => ?_, fun h => by omega⟩
    unfold fin
    rw [hcl, List.drop_drop]
    simp
    omega

theorem zzStringEnd_any (t : ByteArray) (i : Nat) (q : UInt8) (w : World) (ht : t.size ≤ 1048576) (hi : i < t.size) (hq : t[i] = q) :
    Calls Try.prog 6 #[.string t, .int .i64 i] w fun e w' => e = .returned (.int .i64 ((i + fin q (t.data.toList.drop i) : Nat) : Int)) ∧ Below w.heap.size w w' := by
  have h := stringEnd_any t i q w ht hi hq
  generalize i + fin q (t.data.toList.drop i) = res at h ⊢
  clear hq
  go_enter Try.func6, Try.ntmps6
  go_wp2_with (go_at_call 9; refine h.mono ?_; rintro e w' ⟨rfl, hb⟩)
  go_ret
  exact ⟨rfl, hb⟩
end Go.Proofs.Qxb6605557a
