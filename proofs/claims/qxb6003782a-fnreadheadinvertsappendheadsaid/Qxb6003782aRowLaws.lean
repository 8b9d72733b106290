/-
  Laws at the walk for bytes in a row of the call's own ('rowIs'): 'make([]byte, n)', 'copy(dst, s)' from a string.
-/
import Derived.WalkKit
import Derived.Deep.OwnRows
import Derived.Lib.LazyBuf
namespace Go.Proofs.Qxb6003782a
open Go.RowKit

/-- 'make([]T, n)', elements of one cell: a new row of n zero values. -/
theorem wpList_make_row {P : Program} (w : World) {ops : Array Oper} {rest : List Oper} {o : Oper} {a : Act} {Q : Exit → Act → World → Prop}
    (hg : o.guard = none) (l c : Operand) (t : TypeId) (hop : o.op = Op.makeSlice t l c)
    (e : TypeId) (i : TypeInfo) (z : Value) (h1 : P.underlying t = some (.slice e)) (h2 : P.info? e = some i) (h3 : i.zero = some z) (h4 : i.size = 1) (h5 : z.cells = #[z])
    (kl kc : IntKind) (L C : Int) (n : Nat) (hl : a.eval l = .int kl L) (hc : a.eval c = .int kc C) (hL : L = (n : Int)) (hC : C = (n : Int)) (b2 : i.bytes * n ≤ 281474976710656) (b3 : n ≤ maxLen)
    (hK : ∀ w', w'.rowIs w.heap.size e n (fun _ => z) → Below w.heap.size w w' → wpList P ops Q rest (a.put o.dst (.slice (some ⟨w.heap.size, 0, none⟩) n n)) w') :
    wpList P ops Q (o :: rest) a w := by
  refine wpList_make_full w hg l c t hop w.heap.size e i z 1 h1 h2 h3 h4 kl kc L C n hl hc hL hC b2 b3 (Nat.le_refl _) ?_
  intro w' hown hgr
  refine hK w' ?_ ((Below.refl _ _).grown hgr (Nat.le_refl _) (fun k hk => by cases hk))
  obtain ⟨_, h⟩ := hown
  rcases h with ⟨h, _⟩ | ⟨g, cap, cur, hv, hg, hh, hlc, hm, hsz, htk⟩
  · cases h
  · simp only [Value.slice.injEq, Option.some.injEq, Addr.mk.injEq] at hv
    obtain ⟨⟨rfl, _⟩, _, rfl⟩ := hv
    refine ⟨cur, hh, by omega, fun j hj => ?_⟩
    have e1 : (cur.toList.take (n * 1))[j]? = cur[j]? := by
      rw [List.getElem?_take, if_pos (by omega)]; simp
    rw [← e1, htk, h5]
    simp [madeCells, hj, Nat.mod_one]

/-- A row's content behind 'copy(row[off:], t)', t a string. -/
def laidOver (f : Nat → Value) (off : Nat) (t : ByteArray) (j : Nat) : Value :=
  if h : off ≤ j ∧ j - off < t.size then .int .u8 ((t[j - off]'(h.2)).toNat : Int) else f j

theorem rowIs_setCells {b : Nat} {ty : TypeId} {n : Nat} : ∀ (vs : List Value) (o : Nat) (w : World) (f : Nat → Value), w.rowIs b ty n f →
    (w.setCells b o vs).rowIs b ty n (fun j => if o ≤ j ∧ j - o < vs.length then vs.getD (j - o) undef else f j)
  | [], o, w, f, h => h.congr (fun j _ => by simp)
  | v :: r, o, w, f, h => (rowIs_setCells r (o + 1) _ _ (h.set o v)).congr (fun j _ => by
      show (if o + 1 ≤ j ∧ j - (o + 1) < r.length then r.getD (j - (o + 1)) undef else if j = o then v else f j) = _
      by_cases h1 : o + 1 ≤ j ∧ j - (o + 1) < r.length
      · rw [if_pos h1, if_pos (by simp; omega), show j - o = (j - (o + 1)) + 1 by omega]; rfl
      · rw [if_neg h1]
        by_cases h2 : j = o
        · subst h2; simp
        · rw [if_neg h2, if_neg (by simp; omega)])

theorem rowIs_laidOver {b : Nat} {ty : TypeId} {n : Nat} {w : World} {f : Nat → Value} (h : w.rowIs b ty n f) (o : Nat) (t : ByteArray) :
    (w.setCells b o (t.data.toList.map fun x => Value.int .u8 (x.toNat : Int))).rowIs b ty n (laidOver f o t) :=
  (rowIs_setCells _ o w f h).congr (fun j _ => by
    unfold laidOver
    have hl : (t.data.toList.map fun x => Value.int .u8 (x.toNat : Int)).length = t.size := by rw [List.length_map, ← Lib.size_eq]
    by_cases h1 : o ≤ j ∧ j - o < t.size
    · rw [if_pos (by rw [hl]; exact h1), dif_pos h1]
      simp only [List.getD_eq_getElem?_getD, List.getElem?_map]
      have : t.data.toList[j - o]? = some (t[j - o]'h1.2) := by
        rw [List.getElem?_eq_getElem (by simpa [← Lib.size_eq] using h1.2)]; rfl
      rw [this]; rfl
    · rw [if_neg (by rw [hl]; exact h1), dif_neg h1])

/-- 'copy(dst, t)', t A STRING that fits, dst in a row of the call's own from place 'off' on. -/
theorem wpList_copy_string {P : Program} {w : World} {ops : Array Oper} {rest : List Oper} {o : Oper} {a : Act} {Q : Exit → Act → World → Prop} (hgd : o.guard = none) (d s : Operand) (dT sT : TypeId)
    (ho : o.op = .call { callee := .builtin .copy, args := #[d, s], argTypes := #[dT, sT] }) (elem : TypeId) (hu : P.underlying dT = some (.slice elem)) (hz : ∀ w, (Go.sizeOf elem).run P w = .ok 1 w)
    (dp : Option Addr) (dLen dCap : Nat) (t : ByteArray) (hd : a.eval d = .slice dp dLen dCap) (hs : a.eval s = .string t)
    (g off n : Nat) (f : Nat → Value) (hg : w.rowIs g elem n f) (hle : t.size ≤ dLen) (hpos : 0 < t.size → dp = some ⟨g, off, none⟩) (hfit : off + t.size ≤ n)
    (h : ∀ w', w'.rowIs g elem n (laidOver f off t) → Below g w w' → wpList P ops Q rest (a.put o.dst (goInt t.size)) w') : wpList P ops Q (o :: rest) a w := by
  refine wpList_plain hgd fun K hK => ?_
  by_cases h0 : 0 < t.size
  · obtain rfl := hpos h0
    have hrun := Go.run_copy_string (P := P) w dT sT o.type elem g off dLen dCap t hu hz hle (fun j hj => by rw [hg.cell (by omega)]; rfl) (fun j _ => hg.frozen _)
    unfold Oper.wp
    simp [execOp, ho, resolve, invoke, builtin, hd, hs, hrun, Result.andThen]
    exact hK _ _ (h _ (rowIs_laidOver hg off t) (Go.below_setCells (Nat.le_refl _) _ _ _ (Below.refl _ _)))
  · have hn : t.size = 0 := by omega
    have hmin : Nat.min t.size dLen = 0 := by rw [hn]; exact Nat.zero_min _
    have hrun : (Builtin.copy_ #[dT, sT] o.type #[.slice dp dLen dCap, .string t]).run P w = .ok (goInt t.size) w := by
      cases dp <;> simp [Builtin.copy_, run_underlying hu, Builtin.lenOf, Builtin.firstCells, hz, hn, storeCells]
    unfold Oper.wp
    simp [execOp, ho, resolve, invoke, builtin, hd, hs, hrun, Result.andThen]
    exact hK _ _ (h _ (hg.congr (fun j _ => by unfold laidOver; rw [dif_neg (by omega)])) (Below.refl _ _))
end Go.Proofs.Qxb6003782a
