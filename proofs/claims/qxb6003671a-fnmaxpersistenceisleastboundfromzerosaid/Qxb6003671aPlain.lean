/-
  Plain laws on counting and on the greatest; and the state of the law's walk: what memory holds, carried from world to world in one word.
-/
import Derived.Test.Qxb6003671aReads
namespace Go.Proofs.Qxb6003671a
open Go.RowKit
set_option linter.unusedVariables false

theorem cnt_congr {fb gb : Nat → Bool} : ∀ n, (∀ k, k < n → fb k = gb k) → cnt fb n = cnt gb n
  | 0, _ => rfl
  | n + 1, h => by rw [cnt, cnt, cnt_congr n (fun k hk => h k (by omega)), h n (by omega)]

theorem cnt_add (fb : Nat → Bool) (a : Nat) : ∀ b, cnt fb (a + b) = cnt fb a + cnt (fun j => fb (a + j)) b
  | 0 => rfl
  | b + 1 => by
    show cnt fb (a + b + 1) = _
    rw [cnt, cnt, cnt_add fb a b]
    omega

theorem cnt_not (fb : Nat → Bool) : ∀ n, cnt (fun j => !fb j) n + cnt fb n = n
  | 0 => rfl
  | n + 1 => by
    have := cnt_not fb n
    rw [cnt, cnt]
    cases fb n <;> simp <;> omega

theorem cnt_rev : ∀ (n : Nat) (fb : Nat → Bool), cnt (fun j => fb (n - 1 - j)) n = cnt fb n
  | 0, _ => rfl
  | n + 1, fb => by
    have h1 := cnt_add fb 1 n
    have h2 := cnt_rev n (fun j => fb (1 + j))
    have h3 : cnt (fun j => fb (n - j)) n = cnt (fun j => fb (1 + (n - 1 - j))) n := cnt_congr n (fun k hk => by show fb (n - k) = fb (1 + (n - 1 - k)); rw [show 1 + (n - 1 - k) = n - k by omega])
    rw [cnt]
    show cnt (fun j => fb (n - j)) n + (if fb (n - n) = true then 1 else 0) = cnt fb (n + 1)
    rw [h3, h2, Nat.add_comm n 1, h1, Nat.sub_self]
    show _ = cnt fb 0 + (if fb 0 = true then 1 else 0) + _
    simp only [cnt]
    omega

theorem mx_congr {f g : Nat → Int} : ∀ n, (∀ k, k < n → f k = g k) → mx f n = mx g n
  | 0, _ => rfl
  | n + 1, h => by rw [mx, mx, mx_congr n (fun k hk => h k (by omega)), h n (by omega)]

theorem mx_nonneg (f : Nat → Int) : ∀ n, 0 ≤ mx f n
  | 0 => by simp [mx]
  | n + 1 => by have := mx_nonneg f n; rw [mx]; split <;> omega

theorem mx_ge (f : Nat → Int) : ∀ n k, k < n → f k ≤ mx f n
  | 0, k, h => by omega
  | n + 1, k, h => by
    rw [mx]
    by_cases e : k = n
    · subst e; split <;> omega
    · have := mx_ge f n k (by omega); split <;> omega

theorem mx_at (f : Nat → Int) : ∀ n, mx f n = 0 ∨ ∃ k, k < n ∧ f k = mx f n
  | 0 => .inl rfl
  | n + 1 => by
    rw [mx]
    split
    · exact .inr ⟨n, by omega, rfl⟩
    · rcases mx_at f n with h | ⟨k, hk, h⟩
      · exact .inl h
      · exact .inr ⟨k, by omega, h⟩

theorem mx_add (f : Nat → Int) (a : Nat) : ∀ b, mx f (a + b) = if mx (fun j => f (a + j)) b < mx f a then mx f a else mx (fun j => f (a + j)) b
  | 0 => by
    have := mx_nonneg f a
    show mx f a = if (0 : Int) < mx f a then mx f a else 0
    by_cases h : 0 < mx f a
    · rw [if_pos h]
    · rw [if_neg h]; omega
  | b + 1 => by
    show mx f (a + b + 1) = _
    rw [mx, mx, mx_add f a b]
    repeat' split
    all_goals omega

theorem mx_rev : ∀ (n : Nat) (f : Nat → Int), mx (fun j => f (n - 1 - j)) n = mx f n
  | 0, _ => rfl
  | n + 1, f => by
    have h1 := mx_add f 1 n
    have h2 := mx_rev n (fun j => f (1 + j))
    have h3 : mx (fun j => f (n - j)) n = mx (fun j => f (1 + (n - 1 - j))) n := mx_congr n (fun k hk => by show f (n - k) = f (1 + (n - 1 - k)); rw [show 1 + (n - 1 - k) = n - k by omega])
    rw [mx]
    show (if mx (fun j => f (n - j)) n < f (n - n) then f (n - n) else mx (fun j => f (n - j)) n) = mx f (n + 1)
    rw [h3, h2, Nat.add_comm n 1, h1, Nat.sub_self]
    have e : mx f 1 = if (0 : Int) < f 0 then f 0 else 0 := rfl
    have hn := mx_nonneg (fun j => f (1 + j)) n
    rw [e]
    repeat' split
    all_goals omega

/-- A Result in memory: its victims, the other fields 0. -/
def resCells (v : Value) : Array Value := #[v, .int .i64 0, .int .i64 0, .int .i64 0, .int .i64 0, .int .i64 0, .int .i64 0, .int .i64 0, .int .i64 0, .int .i64 0, .int .i64 0]
def Box (w : World) (b : Nat) (v : Value) : Prop := b < w.heap.size ∧ ∀ j, w.cell? ⟨b, j, none⟩ = (resCells v)[j]?

theorem Box.later {w w' : World} {b : Nat} {v : Value} (h : Box w b v) {B : Nat} (hB : w.heap.size ≤ B) (hb : Below B w w') : Box w' b v :=
  ⟨Nat.lt_of_lt_of_le h.1 hb.size, fun j => by rw [hb.cell (by exact Nat.lt_of_lt_of_le h.1 hB)]; exact h.2 j⟩
theorem Box.new (w : World) (v : Value) : Box (w.alloc (.cells #[v, .int .i64 0, .int .i64 0, .int .i64 0, .int .i64 0, .int .i64 0, .int .i64 0, .int .i64 0, .int .i64 0, .int .i64 0, .int .i64 0] 30)) w.heap.size v :=
  ⟨by simp, fun j => by unfold resCells; simp⟩

/-- What memory holds in the law's walk. -/
structure St (w0 w : World) (aF : Option Addr) (nF : Nat) (f : Nat → Bool) (aP : Option Addr) (nP : Nat) (p : Nat → Int) (bx : List (Nat × Value)) (vs : List (Option Addr × Nat × (Nat → Int) × (Nat → Bool) × (Nat → Int))) : Prop where
  bel : Below w0.heap.size w0 w
  F : Cells w aF nF (fun j => .bool (f j))
  P : Cells w aP nP (fun j => .int .i64 (p j))
  box : ∀ x ∈ bx, Box w x.1 x.2
  vic : ∀ x ∈ vs, Vics w x.1 x.2.1 x.2.2.1 x.2.2.2.1 x.2.2.2.2

section
variable {w0 w w' : World} {aF : Option Addr} {nF : Nat} {f : Nat → Bool} {aP : Option Addr} {nP : Nat} {p : Nat → Int} {bx : List (Nat × Value)} {vs : List (Option Addr × Nat × (Nat → Int) × (Nat → Bool) × (Nat → Int))}

theorem St.later (h : St w0 w aF nF f aP nP p bx vs) (hb : Below w.heap.size w w') : St w0 w' aF nF f aP nP p bx vs :=
  ⟨h.bel.trans (hb.mono h.bel.size), h.F.later (Nat.le_refl _) hb, h.P.later (Nat.le_refl _) hb, fun x hx => (h.box x hx).later (Nat.le_refl _) hb, fun x hx => (h.vic x hx).later (Nat.le_refl _) hb⟩

theorem St.drew (h : St w0 w aF nF f aP nP p bx vs) : St w0 w.drew aF nF f aP nP p bx vs := ⟨h.bel.drew, h.F, h.P, h.box, h.vic⟩

theorem St.addVic (h : St w0 w aF nF f aP nP p bx vs) {ao : Option Addr} {n : Nat} {tm : Nat → Int} {fb : Nat → Bool} {pv : Nat → Int} (hv : Vics w ao n tm fb pv) : St w0 w aF nF f aP nP p bx ((ao, n, tm, fb, pv) :: vs) :=
  ⟨h.bel, h.F, h.P, h.box, fun x hx => by
    rcases List.mem_cons.1 hx with rfl | hx
    · exact hv
    · exact h.vic x hx⟩

theorem St.addBox (h : St w0 w aF nF f aP nP p bx vs) (v : Value) : St w0 (w.alloc (.cells #[v, .int .i64 0, .int .i64 0, .int .i64 0, .int .i64 0, .int .i64 0, .int .i64 0, .int .i64 0, .int .i64 0, .int .i64 0, .int .i64 0] 30)) aF nF f aP nP p ((w.heap.size, v) :: bx) vs := by
  have h2 := h.later ((Below.refl _ _).alloc (Nat.le_refl _) (.cells #[v, .int .i64 0, .int .i64 0, .int .i64 0, .int .i64 0, .int .i64 0, .int .i64 0, .int .i64 0, .int .i64 0, .int .i64 0, .int .i64 0] 30))
  exact ⟨h2.bel, h2.F, h2.P, fun x hx => by
    rcases List.mem_cons.1 hx with rfl | hx
    · exact Box.new w v
    · exact h2.box x hx, h2.vic⟩
end

/-- victimsOf from 0 on. -/
theorem victims0_any (aF aP : Option Addr) (nF cF nP cP hi : Nat) (f : Nat → Bool) (p : Nat → Int) (flip : Bool) (w : World) (hh : hi ≤ 65536) (hnF : nF ≤ 1048576) (hnP : nP ≤ 1048576)
    (hF : Cells w aF nF (fun j => .bool (f j))) (hP : Cells w aP nP (fun j => .int .i64 (p j))) :
    Calls Try.prog 10 #[.slice aF nF cF, .slice aP nP cP, .int .i64 0, .int .i64 hi, .bool flip] w fun e w' => ∃ ao cap, e = .returned (.slice ao hi cap) ∧
      Vics w' ao hi (fun j => ((0 + j : Nat) : Int)) (fun j => flagAt nF f flip (0 + j)) (fun j => persAt nP p (0 + j)) ∧ Below w.heap.size w w' :=
  victims_any aF aP nF cF nP cP 0 hi f p flip w (Nat.zero_le _) hh hnF hnP hF hP
end Go.Proofs.Qxb6003671a
