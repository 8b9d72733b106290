/-
  Laws at the walk, and words for what memory holds: 'Cells' (a slice's elements, one cell each), a row that make lays.
-/
import Derived.WalkKit
import Derived.Deep.OwnRows
import Derived.Deep.Draws
import Derived.Lib.LazyBuf
namespace Go.Proofs.Qxb6003671a
open Go.RowKit

theorem wpList_make_row {P : Program} (w : World) {ops : Array Oper} {rest : List Oper} {o : Oper} {a : Act} {Q : Exit → Act → World → Prop}
    (hg : o.guard = none) (l c : Operand) (t : TypeId) (hop : o.op = Op.makeSlice t l c)
    (e : TypeId) (i : TypeInfo) (z : Value) (h1 : P.underlying t = some (.slice e)) (h2 : P.info? e = some i) (h3 : i.zero = some z) (h4 : i.size = 1) (h5 : z.cells = #[z])
    (kl kc : IntKind) (L C : Int) (n : Nat) (hl : a.eval l = .int kl L) (hc : a.eval c = .int kc C) (hL : L = (n : Int)) (hC : C = (n : Int)) (b2 : i.bytes * n ≤ 281474976710656) (b3 : n ≤ maxLen)
    (hK : ∀ w', w'.rowIs w.heap.size e n (fun _ => z) → Below w.heap.size w w' → wpList P ops Q rest (a.put o.dst (.slice (some ⟨w.heap.size, 0, none⟩) n n)) w') :
    wpList P ops Q (o :: rest) a w := by
  refine wpList_make_full w hg l c t hop w.heap.size e i z 1 h1 h2 h3 h4 kl kc L C n hl hc hL hC b2 b3 (Nat.le_refl _) ?_
  intro w' hown hgr
  refine hK w' ?_ ((Below.refl _ _).grown hgr (Nat.le_refl _) (fun k hk => by cases hk))
  obtain ⟨_, h⟩ := hown
  rcases h with ⟨h, _⟩ | ⟨g, cap, cur, hv, hg, hh, hlc, hm, hsz, htk⟩
  · cases h
  · simp only [Value.slice.injEq, Option.some.injEq, Addr.mk.injEq] at hv
    obtain ⟨⟨rfl, _⟩, _, rfl⟩ := hv
    refine ⟨cur, hh, by omega, fun j hj => ?_⟩
    have e1 : (cur.toList.take (n * 1))[j]? = cur[j]? := by
      rw [List.getElem?_take, if_pos (by omega)]; simp
    rw [← e1, htk, h5]
    simp [madeCells, hj, Nat.mod_one]

/-- A slice of n elements, one cell each, holding f. -/
def Cells (w : World) (ao : Option Addr) (n : Nat) (f : Nat → Value) : Prop :=
  0 < n → ∃ g o, ao = some ⟨g, o, none⟩ ∧ g < w.heap.size ∧ ∀ j, j < n → w.cell? ⟨g, o + j, none⟩ = some (f j)

theorem Cells.later {w w' : World} {ao : Option Addr} {n : Nat} {f : Nat → Value} (h : Cells w ao n f) {B : Nat} (hB : w.heap.size ≤ B) (hb : Below B w w') : Cells w' ao n f := fun hp => by
  obtain ⟨g, o, e, hg, hc⟩ := h hp
  exact ⟨g, o, e, Nat.lt_of_lt_of_le hg hb.size, fun j hj => by rw [hb.cell (by exact Nat.lt_of_lt_of_le hg hB)]; exact hc j hj⟩

theorem Cells.alloc {w : World} {ao : Option Addr} {n : Nat} {f : Nat → Value} (h : Cells w ao n f) (o : Obj) : Cells (w.alloc o) ao n f := h.later (Nat.le_refl _) ((Below.refl _ _).alloc (Nat.le_refl _) _)

theorem Cells.of_row {w : World} {g : Nat} {e : TypeId} {n : Nat} {f : Nat → Value} (hr : w.rowIs g e n f) : Cells w (some ⟨g, 0, none⟩) n f := fun _ =>
  ⟨g, 0, rfl, hr.lt, fun j hj => by rw [Nat.zero_add, hr.cell hj]⟩

/-- The first k of f, then z. -/
def upTo (f : Nat → Value) (z : Value) (k j : Nat) : Value := if j < k then f j else z
theorem row_upTo {w : World} {b N : Nat} {e : TypeId} {f : Nat → Value} {z : Value} {k : Nat} (h : w.rowIs b e N (upTo f z k)) : (w.setCell ⟨b, k, none⟩ (f k)).rowIs b e N (upTo f z (k + 1)) :=
  (h.set k _).congr (fun j _ => by
    show (if j = k then f k else upTo f z k j) = upTo f z (k + 1) j
    unfold upTo
    by_cases h : j = k
    · subst h; rw [if_pos rfl, if_pos (by omega)]
    · rw [if_neg h]
      by_cases h2 : j < k
      · rw [if_pos h2, if_pos (by omega)]
      · rw [if_neg h2, if_neg (by omega)])
end Go.Proofs.Qxb6003671a
