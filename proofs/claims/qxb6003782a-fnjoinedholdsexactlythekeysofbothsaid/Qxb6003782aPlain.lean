/-
  Plain laws, no Go in sight but the model's own order on byte lists (Op.bytesLess): cmp3 is a total order; membership in a key range; the two range laws.
-/
import Derived.WalkKit
namespace Go.Proofs.Qxb6003782a

/-- -1, 0 or 1, byte by byte. -/
def cmp3 : List UInt8 → List UInt8 → Int
  | [], [] => 0
  | [], _ :: _ => -1
  | _ :: _, [] => 1
  | x :: xs, y :: ys => if x = y then cmp3 xs ys else if x < y then -1 else 1

theorem cmp3_bd : ∀ a b : List UInt8, -1 ≤ cmp3 a b ∧ cmp3 a b ≤ 1
  | [], [] => by simp [cmp3]
  | [], _ :: _ => by simp [cmp3]
  | _ :: _, [] => by simp [cmp3]
  | x :: xs, y :: ys => by
    have := cmp3_bd xs ys
    simp only [cmp3]
    split
    · exact this
    · split <;> omega

theorem cmp3_self : ∀ a : List UInt8, cmp3 a a = 0
  | [] => rfl
  | x :: xs => by simp [cmp3, cmp3_self xs]

theorem cmp3_zero : ∀ a b : List UInt8, cmp3 a b = 0 → a = b
  | [], [], _ => rfl
  | [], _ :: _, h => by simp [cmp3] at h
  | _ :: _, [], h => by simp [cmp3] at h
  | x :: xs, y :: ys, h => by
    simp only [cmp3] at h
    split at h
    · rename_i e; rw [e, cmp3_zero xs ys h]
    · split at h <;> omega

theorem cmp3_anti : ∀ a b : List UInt8, cmp3 a b = - cmp3 b a
  | [], [] => rfl
  | [], _ :: _ => rfl
  | _ :: _, [] => rfl
  | x :: xs, y :: ys => by
    have := cmp3_anti xs ys
    simp only [cmp3]
    by_cases e : x = y
    · rw [if_pos e, if_pos e.symm]; exact this
    · have e2 : ¬ y = x := fun h => e h.symm
      rw [if_neg e, if_neg e2]
      have e' : x.toNat ≠ y.toNat := fun h => e (UInt8.toNat_inj.1 h)
      by_cases g : x < y
      · rw [if_pos g, if_neg (fun h => by have a := UInt8.lt_iff_toNat_lt.1 g; have b := UInt8.lt_iff_toNat_lt.1 h; omega)]
      · rw [if_neg g, if_pos (UInt8.lt_iff_toNat_lt.2 (by have : ¬ x.toNat < y.toNat := fun h => g (UInt8.lt_iff_toNat_lt.2 h); omega))]; rfl

theorem cmp3_trans : ∀ a b c : List UInt8, cmp3 a b ≤ 0 → cmp3 b c ≤ 0 → cmp3 a c ≤ 0 ∧ (cmp3 a c = 0 → cmp3 a b = 0 ∧ cmp3 b c = 0)
  | [], [], [], _, _ => by simp [cmp3]
  | [], [], _ :: _, _, _ => by simp [cmp3]
  | [], _ :: _, [], _, h => by simp [cmp3] at h
  | [], _ :: _, _ :: _, _, _ => by simp [cmp3]
  | _ :: _, [], _, h, _ => by simp [cmp3] at h
  | _ :: _, _ :: _, [], _, h => by simp [cmp3] at h
  | x :: xs, y :: ys, z :: zs, h1, h2 => by
    simp only [cmp3] at h1 h2 ⊢
    by_cases e1 : x = y
    · subst e1
      by_cases e2 : x = z
      · subst e2
        simp only [if_pos] at h1 h2 ⊢
        exact cmp3_trans xs ys zs h1 h2
      · rw [if_neg e2] at h2 ⊢
        split at h2
        · rename_i g; rw [if_pos g]; exact ⟨by omega, fun h => by omega⟩
        · omega
    · simp only [if_neg e1] at h1 ⊢
      split at h1
      · rename_i g1
        by_cases e2 : y = z
        · subst e2
          simp [e1, g1]
        · simp only [if_neg e2] at h2 ⊢
          split at h2
          · rename_i g2
            have a := UInt8.lt_iff_toNat_lt.1 g1
            have b := UInt8.lt_iff_toNat_lt.1 g2
            have e3 : ¬ x = z := fun h => by rw [h] at a; omega
            rw [if_neg e3, if_pos (UInt8.lt_iff_toNat_lt.2 (by omega))]
            omega
          · omega
      · omega

theorem bytesLess_cmp3 : ∀ a b : List UInt8, Op.bytesLess a b = decide (cmp3 a b < 0)
  | [], [] => by simp [Op.bytesLess, cmp3]
  | [], _ :: _ => by simp [Op.bytesLess, cmp3]
  | _ :: _, [] => by simp [Op.bytesLess, cmp3]
  | x :: xs, y :: ys => by
    simp only [Op.bytesLess, cmp3, bytesLess_cmp3 xs ys]
    by_cases e : x = y
    · subst e
      have : ¬ x < x := fun h => by have := UInt8.lt_iff_toNat_lt.1 h; omega
      simp [this]
    · by_cases g : x < y <;> simp [e, g]

theorem beq_cmp3 (a b : List UInt8) : (a == b) = decide (cmp3 a b = 0) := by
  by_cases h : a = b
  · subst h; simp [cmp3_self]
  · have : ¬ cmp3 a b = 0 := fun e => h (cmp3_zero a b e)
    simp [h, this]

/-- memberOf. -/
def memB (s e : List UInt8) (thr opn : Bool) (k : List UInt8) : Bool :=
  if cmp3 k s < 0 then false else if opn then true else if thr then decide (cmp3 k e ≤ 0) else decide (cmp3 k e < 0)

/-- precedes. -/
def precB (o : Int) (a b : List UInt8) : Bool := if o = 1 then decide (0 < cmp3 a b) else decide (cmp3 a b < 0)

/-- endsAfter: r goes on past the end of s. -/
def endsB (re : List UInt8) (rt ro : Bool) (se : List UInt8) (st so : Bool) : Bool :=
  if so then false else if ro then true else if cmp3 re se = 0 then rt && !st else decide (0 < cmp3 re se)

theorem readTo_law (s e : List UInt8) (thr opn : Bool) (key : List UInt8) (o : Int) (k : List UInt8) (h : memB s e thr opn key = true) :
    (if o = 1 then memB key e thr opn k else memB s key true false k) = (memB s e thr opn k && (decide (cmp3 k key = 0) || precB o k key)) := by
  have a1 := cmp3_bd k key
  have a2 := cmp3_bd k s
  have a3 := cmp3_bd k e
  have a4 := cmp3_bd key s
  have a5 := cmp3_bd key e
  have b1 := cmp3_anti k key
  have b2 := cmp3_anti key s
  have t1 := cmp3_trans s key k
  have t2 := cmp3_trans k key e
  have t3 := cmp3_anti k s
  rw [Bool.eq_iff_iff]
  by_cases ho : o = 1
  · simp only [memB, precB, ho, if_true] at h ⊢
    cases opn <;> cases thr <;> simp at h ⊢ <;> omega
  · simp only [memB, precB, ho, if_false] at h ⊢
    cases opn <;> cases thr <;> simp at h ⊢ <;> omega

theorem joined_law (rs re : List UInt8) (rt ro : Bool) (ss se : List UInt8) (st so : Bool) (k : List UInt8) (h1 : ¬ cmp3 ss rs < 0) (h2 : ro = false → ¬ 0 < cmp3 ss re) :
    (if endsB se st so re rt ro then memB rs se st so k else memB rs re rt ro k) = (memB rs re rt ro k || memB ss se st so k) := by
  have a1 := cmp3_bd k rs
  have a2 := cmp3_bd k ss
  have a3 := cmp3_bd k re
  have a4 := cmp3_bd k se
  have a5 := cmp3_bd ss rs
  have a6 := cmp3_bd ss re
  have a7 := cmp3_bd se re
  have b1 := cmp3_anti ss rs
  have b2 := cmp3_anti k ss
  have b3 := cmp3_anti se re
  have b4 := cmp3_anti k re
  have b5 := cmp3_anti k se
  have b6 := cmp3_anti k rs
  have t1 := cmp3_trans rs ss k
  have t2 := cmp3_trans k ss re
  have t3 := cmp3_trans k re se
  have t4 := cmp3_trans k se re
  rw [Bool.eq_iff_iff]
  cases ro <;> cases so <;> cases rt <;> cases st <;> simp [memB, endsB] at h2 ⊢ <;> (repeat' split) <;> (try simp) <;> omega
end Go.Proofs.Qxb6003782a
