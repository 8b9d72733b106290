/-
  AppendUvarint onto a slice that is full, or the call's own; appendHead; ZZAppendHead.
-/
import Derived.Test.Qxb6003782aHeadWalks
import Derived.Deep.RegionWith
import Derived.ArgAppend
namespace Go.Proofs.Qxb6003782a
open Go.RowKit

/-- A slice of bytes xs that is the call's own (from block 'base' on), or whose capacity is its length. -/
def Owned (base : Nat) (w : World) (v : Value) (n : Nat) (xs : List Value) : Prop :=
  w.ownsRow base 5 1 v n xs ∨ ∃ ao, v = .slice ao n n ∧ (ao = none → n = 0) ∧ xs.length = n ∧ ∀ b, ao = some b → ∀ j u, xs[j]? = some u → w.cell? (b.add j) = some u

theorem addr_add_block (b : Addr) (j : Nat) : (b.add j).block = b.block := by unfold Addr.add; split <;> rfl

theorem Owned.alloc {base : Nat} {w : World} {v : Value} {n : Nat} {xs : List Value} (h : Owned base w v n xs) (o : Obj) : Owned base (w.alloc o) v n xs := by
  rcases h with h | ⟨ao, e, h0, hl, hc⟩
  · exact .inl (h.alloc o)
  · refine .inr ⟨ao, e, h0, hl, fun b hb j u hu => ?_⟩
    have h1 := hc b hb j u hu
    have hlt := World.block_lt_of_cell? w _ h1
    rw [World.cell?_of_block (w := w) (Below.heap_alloc w o _ hlt)]
    exact h1

theorem wpList_append_either {P : Program} (w : World) {ops : Array Oper} {rest : List Oper} {o : Oper} {a : Act} {Q : Exit → Act → World → Prop}
    (hg : o.guard = none) (s x : Operand) (t : TypeId) (hop : o.op = Op.call { callee := Callee.builtin Builtin.append, args := #[s, x], argTypes := #[t, t] })
    (i : TypeInfo) (z : Value) (h1 : P.underlying t = some (.slice 5)) (h2 : P.info? 5 = some i) (h3 : i.zero = some z) (h4 : i.size = 1) (h5 : i.bytes = 1) (h6 : z.cells.size = 1)
    (base n : Nat) (v : Value) (xs : List Value) (hs : a.eval s = v) (hown : Owned base w v n xs) (ad : Addr) (c : Nat) (u : Value) (hx : a.eval x = .slice (some ad) 1 c)
    (hc : ∀ j u', [u][j]? = some u' → w.cell? (ad.add j) = some u') (h1c : u.oneCell' = true) (hb : n + 1 ≤ 140737488355328) (hbase : base ≤ w.heap.size)
    (hK : ∀ v' w', w'.ownsRow base 5 1 v' (n + 1) (xs ++ [u]) → Below base w w' → wpList P ops Q rest (a.put o.dst v') w') :
    wpList P ops Q (o :: rest) a w := by
  have hone : ∀ u' ∈ [u], u'.oneCell' = true := fun u' hu => by simp at hu; subst hu; exact h1c
  have hm : n + 1 ≤ maxLen := by unfold maxLen; omega
  rcases hown with hown | ⟨ao, e, h0, hl, hcs⟩
  · refine wpList_append_own w hg s x t hop base 5 i z 1 1 h1 h2 h3 h4 h5 h6 (by decide) v n xs hs hown ad 1 c [u] hx rfl hc hone hm (by omega) hbase ?_
    intro v' w' ho hgr _
    exact hK v' w' ho ((Below.refl _ _).grown hgr hbase (fun k hk => (hown.lt k hk).1))
  · refine wpList_append_grows w hg s x t hop 5 i z 1 1 h1 h2 h3 h4 h5 h6 (by decide) ao n n xs (by rw [hs, e]) (fun h => ⟨h0 h, h0 h⟩) (by omega) hcs ad 1 c [u] hx rfl hc hone (by omega) hm (by omega) ?_
    intro v' w' ho hgr
    refine hK v' w' ?_ ((Below.refl _ _).grown hgr hbase (fun k hk => by cases hk))
    obtain ⟨e1, e2⟩ := ho
    refine ⟨e1, ?_⟩
    rcases e2 with e2 | ⟨g, cap, cur, hv, hge, r⟩
    · exact .inl e2
    · exact .inr ⟨g, cap, cur, hv, by omega, r⟩

/-- One byte that was laid in a block of its own, for the law's side goal. -/
theorem one_new (w : World) (x : Int) : ∀ j u, [Value.int .u8 x][j]? = some u → (w.alloc (.cells #[.int .u8 x] 5)).cell? ((⟨w.heap.size, 0, none⟩ : Addr).add j) = some u := cell_one_new w (.int .u8 x) 5

/-- The state of AppendUvarint's loop: y is still to be written, the bytes 'pre' are. -/
def Uv (B n x : Nat) (xs : List Value) (w wr : World) (vb : Value) (y : Nat) (pre : List UInt8) : Prop :=
  Lib.uvarint x = pre ++ Lib.uvarint y ∧ Owned B wr vb (n + pre.length) (xs ++ Lib.byteCells pre) ∧ Below B w wr

theorem Uv.room {B n x : Nat} {xs : List Value} {w wr : World} {vb : Value} {y : Nat} {pre : List UInt8} (h : Uv B n x xs w wr vb y pre) (hx : x < 18446744073709551616) : pre.length + 1 ≤ 10 := by
  have h1 := congrArg List.length h.1
  have h2 := Lib.uvarint_length64 hx
  have h3 := Lib.uvarint_pos y
  rw [List.length_append] at h1
  omega

theorem Uv.more {B n x : Nat} {xs : List Value} {w wr w' : World} {vb v' : Value} {y : Nat} {pre : List UInt8} (h : Uv B n x xs w wr vb y pre) (h128 : 128 ≤ y) (hbl : Below B wr w')
    (hown : w'.ownsRow B 5 1 v' (n + pre.length + 1) (xs ++ Lib.byteCells pre ++ [.int .u8 ((y : Int) % 128 + 128)])) : Uv B n x xs w w' v' (y / 128) (pre ++ [(y % 128 + 128).toUInt8]) := by
  refine ⟨by rw [h.1, Lib.uvarint_big h128]; simp, .inl ?_, h.2.2.trans hbl⟩
  rw [Lib.byteCells_snoc pre (by omega), List.length_append, show ((y % 128 + 128 : Nat) : Int) = (y : Int) % 128 + 128 by omega, ← List.append_assoc]
  exact hown

theorem Uv.last {B n x : Nat} {xs : List Value} {w wr w' : World} {vb v' : Value} {y : Nat} {pre : List UInt8} (h : Uv B n x xs w wr vb y pre) (h128 : y < 128)
    (hown : w'.ownsRow B 5 1 v' (n + pre.length + 1) (xs ++ Lib.byteCells pre ++ [.int .u8 (y : Int)])) : w'.ownsRow B 5 1 v' (n + (Lib.uvarint x).length) (xs ++ Lib.byteCells (Lib.uvarint x)) := by
  rw [h.1, Lib.uvarint_small h128, Lib.byteCells_snoc pre (by omega), List.length_append, ← List.append_assoc]
  exact hown

set_option maxRecDepth 100000 in
set_option maxHeartbeats 2000000 in
theorem appendUv (B n x : Nat) (hx : x < 18446744073709551616) (sv : Value) (xs : List Value) (w : World) (hown : Owned B w sv n xs) (hBw : B ≤ w.heap.size) (hlim : n + 10 ≤ 140737488355328) :
    Calls Try.prog 28 #[sv, .int .u64 x] w fun e w' => ∃ v', e = .returned v' ∧ w'.ownsRow B 5 1 v' (n + (Lib.uvarint x).length) (xs ++ Lib.byteCells (Lib.uvarint x)) ∧ Below B w w' := by
  obtain ⟨i0, hi, hz0, hz1, hz2⟩ := info_parts Try.info5
  go_enter Try.func28, Try.ntmps28
  go_wp2
  go_loopw [0, 1] (fun vb vx wr => ∃ (y : Nat) (pre : List UInt8), y ≤ x ∧ vx = .int .u64 y ∧ Uv B n x xs w wr vb y pre) (fun _ vx _ => (intOf vx).toNat)
  case atStart => exact ⟨x, [], Nat.le_refl _, rfl, rfl, by simpa [Lib.byteCells] using hown, Below.refl _ _⟩
  case round =>
    obtain ⟨y, pre, hy, rfl, hU⟩ := hrel
    have hroom := hU.room hx
    have hsz : B ≤ wr.heap.size := Nat.le_trans hBw hU.2.2.size
    have hsz1 : B ≤ wr.heap.size + 1 := by omega
    rcases Nat.lt_or_ge y 128 with h | h
    · go_wp2_with (at_builtin; refine wpList_append_either _ rfl _ _ 29 rfl i0 (.int .u8 0) Try.underlying29 hi hz0 hz1 hz2 rfl B (n + pre.length) _ (xs ++ Lib.byteCells pre) rfl (hU.2.1.alloc _) ⟨wr.heap.size, 0, none⟩ 1 (.int .u8 (y : Int)) rfl (one_new _ _) rfl (by omega) (by simpa using hsz1) ?_; intro v' w1 ho hb)
      go_ret
      exact ⟨v', rfl, hU.last h (by simpa using ho), (hU.2.2.alloc hsz _).trans hb⟩
    · have hor : bits .or .u8 ((y : Int) % 256) 128 = (y : Int) % 128 + 128 := by
        rw [Lib.u8_or128_any _ (by omega) (by omega)]
        omega
      go_wp2_with (at_builtin; refine wpList_append_either _ rfl _ _ 29 rfl i0 (.int .u8 0) Try.underlying29 hi hz0 hz1 hz2 rfl B (n + pre.length) _ (xs ++ Lib.byteCells pre) rfl (hU.2.1.alloc _) ⟨wr.heap.size, 0, none⟩ 1 (.int .u8 ((y : Int) % 128 + 128)) rfl (one_new _ _) rfl (by omega) (by simpa using hsz1) ?_; intro v' w1 ho hb)
      go_roundw
      case rel => exact ⟨y / 128, _, by omega, by go_num, hU.more h (((Below.refl B wr).alloc hsz _).trans hb) (by simpa using ho)⟩
      case measure => simp [intOf]; omega

theorem ownsRow_base {w : World} {B B' : Nat} {v : Value} {n : Nat} {xs : List Value} (h : w.ownsRow B 5 1 v n xs) (hB : B' ≤ B) : w.ownsRow B' 5 1 v n xs := by
  obtain ⟨e1, e2⟩ := h
  refine ⟨e1, ?_⟩
  rcases e2 with e2 | ⟨g, cap, cur, hv, hge, r⟩
  · exact .inl e2
  · exact .inr ⟨g, cap, cur, hv, by omega, r⟩

theorem bytes_owned {w : World} {ao : Option Addr} {bs : List UInt8} (h : Bytes w ao bs) (h0 : ao = none → bs.length = 0) (B : Nat) : Owned B w (.slice ao bs.length bs.length) bs.length (Lib.byteCells bs) := by
  refine .inr ⟨ao, rfl, h0, Lib.byteCells_length bs, fun b hb j u hu => ?_⟩
  have hj : j < bs.length := by
    have := (List.getElem?_eq_some_iff.1 hu).1
    rwa [Lib.byteCells_length] at this
  obtain ⟨g, o, e, _, hc⟩ := h (by omega)
  rw [hb] at e
  simp only [Option.some.injEq] at e
  subst e
  have ea : (⟨g, o, none⟩ : Addr).add j = ⟨g, o + j, none⟩ := by unfold Addr.add; split <;> simp_all
  rw [ea, hc j hj]
  simp only [Lib.byteCells, List.getElem?_map, Option.map_eq_some_iff] at hu
  obtain ⟨y, hy, rfl⟩ := hu
  rw [List.getD_eq_getElem?_getD, hy]
  rfl

set_option maxHeartbeats 2000000 in
theorem appendHead_any (ao : Option Addr) (bs : List UInt8) (c p : Nat) (w : World) (hc : c < 18446744073709551616) (hp : p < 18446744073709551616) (hb : bs.length ≤ 1048576) (hB : Bytes w ao bs) (h0 : ao = none → bs.length = 0) :
    Calls Try.prog 25 #[.slice ao bs.length bs.length, .agg #[.int .u64 c, .int .u64 p]] w fun e w' => ∃ v', e = .returned v' ∧
      w'.ownsRow w.heap.size 5 1 v' (bs.length + (Lib.uvarint c).length + (Lib.uvarint p).length) (Lib.byteCells bs ++ Lib.byteCells (Lib.uvarint c) ++ Lib.byteCells (Lib.uvarint p)) ∧ Below w.heap.size w w' := by
  have hl := Lib.uvarint_length64 hc
  have hO := bytes_owned hB h0 (w.heap.size + 1)
  go_enter Try.func25, Try.ntmps25
  go_wp2
  go_region_with (first | (go_at_call_of 28 (Value.int .u64 c); refine (appendUv (w.heap.size + 1) bs.length c hc _ _ _ (by exact hO.alloc _) (by simp) (by omega)).mono ?_; rintro e w1 ⟨v1, rfl, ho1, hb1⟩; have hcx : w1.cell? ⟨w.heap.size, 1, none⟩ = some (.int .u64 p) := (by rw [hb1.cell (by simp)]; simp)) | (go_at_call_of 28 (Value.int .u64 p); refine (appendUv (w.heap.size + 1) (bs.length + (Lib.uvarint c).length) p hp _ _ _ (by exact .inl ho1) (by have := hb1.size; simp at this; simp; omega) (by omega)).mono ?_; rintro e w2 ⟨v2, rfl, ho2, hb2⟩))
  all_goals
    go_wp2
    go_ret
    exact ⟨v2, rfl, ownsRow_base ho2 (by omega), (((Below.refl w.heap.size w).alloc (Nat.le_refl _) _).drew).trans ((hb1.trans hb2).mono (by omega))⟩

theorem own_bytes {w : World} {B n : Nat} {v : Value} {bs : List UInt8} (hn : n = bs.length) (h0 : 0 < n) (h : w.ownsRow B 5 1 v n (Lib.byteCells bs)) :
    ∃ g cap, v = .slice (some ⟨g, 0, none⟩) n cap ∧ n ≤ cap ∧ B ≤ g ∧ Bytes w (some ⟨g, 0, none⟩) bs := by
  have hx := h
  obtain ⟨e1, e2⟩ := h
  rcases e2 with ⟨_, e2⟩ | ⟨g, cap, cur, hv, hge, hh, hcap, hmx, hsz, htk⟩
  · omega
  · subst hv
    refine ⟨g, cap, rfl, hcap, hge, fun _ => ⟨g, 0, rfl, (Array.getElem?_eq_some_iff.1 hh).1, fun j hj => ?_⟩⟩
    rw [Nat.zero_add, hx.cellAt j (by omega)]
    simp only [Lib.byteCells, List.getElem?_map]
    rw [List.getElem?_eq_getElem hj, List.getD_eq_getElem?_getD, List.getElem?_eq_getElem hj]
    rfl

theorem zzAppendHead_any (ao : Option Addr) (bs : List UInt8) (c p : Nat) (w : World) (hc : c < 18446744073709551616) (hp : p < 18446744073709551616) (hb : bs.length ≤ 1048576) (hB : Bytes w ao bs) (h0 : ao = none → bs.length = 0) :
    Calls Try.prog 18 #[.slice ao bs.length bs.length, .int .u64 c, .int .u64 p] w fun e w' => ∃ g cap, e = .returned (.slice (some ⟨g, 0, none⟩) (bs.length + ((Lib.uvarint c).length + (Lib.uvarint p).length)) cap) ∧
      bs.length + ((Lib.uvarint c).length + (Lib.uvarint p).length) ≤ cap ∧ w.heap.size ≤ g ∧ Bytes w' (some ⟨g, 0, none⟩) (bs ++ (Lib.uvarint c ++ Lib.uvarint p)) ∧ Below w.heap.size w w' := by
  go_enter Try.func18, Try.ntmps18
  go_wp2_with (go_at_call 25; refine (appendHead_any ao bs c p _ hc hp hb hB h0).mono ?_; rintro e w' ⟨v', rfl, ho, hbl⟩)
  rw [Nat.add_assoc, List.append_assoc, ← Lib.byteCells_append, ← Lib.byteCells_append] at ho
  have := Lib.uvarint_pos c
  obtain ⟨g, cap, rfl, h1, h2, h3⟩ := own_bytes (by simp) (by omega) ho
  go_ret
  exact ⟨g, cap, rfl, h1, h2, h3, hbl⟩
end Go.Proofs.Qxb6003782a
