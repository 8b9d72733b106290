/-
  The shelf's contracts of strings.HasPrefix and strings.Repeat at this program, in plain words (laid by the kit's tools, the rest struck).
-/
import Derived.Shelf.Strings.Prefix
import Derived.Shelf.Strings.Repeat
import Derived.Test.Qxb6605557aProg
namespace Go.Proofs
open Go.Shelf
def Try.lays99_ren : Go.Shelf.Ren := ⟨fun | 99 => 11 | 206 => 17 | n => n, fun | 9 => 9 | 4 => 4 | 3 => 3 | n => n, fun | n => n⟩
theorem Try.lays99 : Go.Proofs.Lays.n99 Try.prog Try.lays99_ren := {
  mixed := by kernel_rfl
  f99 := Try.func11.trans (congrArg some (by kernel_rfl))
  f206 := Try.func17.trans (congrArg some (by kernel_rfl))
  t3 := Try.underlying3
  a3 := Try.isAgg3
  z3 := Try.sizeOf3
  v3 := Try.zeroValue3
  t4 := Try.underlying4
  a4 := Try.isAgg4
  z4 := Try.sizeOf4
  v4 := Try.zeroValue4
  t9 := Try.underlying9
  a9 := Try.isAgg9
  z9 := Try.sizeOf9
  v9 := Try.zeroValue9 }
open Go.RowKit Go.Lib in
theorem Try.strings_HasPrefix (s p : ByteArray) (w : World) :
    Calls Try.prog 11 #[.string s, .string p] w fun e w' => e = .returned (.bool (Lib.hasPrefix s.data.toList p.data.toList)) ∧ w' = w := Any.strings_HasPrefix Try.lays99 s p w
def Try.lays105_ren : Go.Shelf.Ren := ⟨fun | 105 => 10 | 212 => 12 | 99 => 11 | 165 => 13 | 166 => 14 | 170 => 15 | 169 => 16 | 263 => 18 | 264 => 19 | 206 => 17 | 240 => 20 | 241 => 21 | 276 => 22 | 277 => 23 | n => n, fun | 9 => 9 | 3 => 3 | 4 => 4 | 20 => 20 | 0 => 0 | 46 => 27 | 109 => 28 | 5 => 5 | 72 => 33 | 76 => 37 | 51 => 41 | 146 => 42 | 53 => 44 | 148 => 45 | 70 => 30 | 37 => 31 | 75 => 36 | 127 => 47 | 164 => 48 | 80 => 40 | n => n, fun | n => n⟩
theorem Try.lays105 : Go.Proofs.Lays.n105 Try.prog Try.lays105_ren := {
  mixed := by kernel_rfl
  f99 := Try.func11.trans (congrArg some (by kernel_rfl))
  f105 := Try.func10.trans (congrArg some (by kernel_rfl))
  f165 := Try.func13.trans (congrArg some (by kernel_rfl))
  f166 := Try.func14.trans (congrArg some (by kernel_rfl))
  f169 := Try.func16.trans (congrArg some (by kernel_rfl))
  f170 := Try.func15.trans (congrArg some (by kernel_rfl))
  f206 := Try.func17.trans (congrArg some (by kernel_rfl))
  f212 := Try.func12.trans (congrArg some (by kernel_rfl))
  f240 := Try.func20.trans (congrArg some (by kernel_rfl))
  f241 := Try.func21.trans (congrArg some (by kernel_rfl))
  f263 := Try.func18.trans (congrArg some (by kernel_rfl))
  f264 := Try.func19.trans (congrArg some (by kernel_rfl))
  f276 := Try.func22.trans (congrArg some (by kernel_rfl))
  f277 := Try.func23.trans (congrArg some (by kernel_rfl))
  t0 := Try.underlying0
  a0 := Try.isAgg0
  z0 := Try.sizeOf0
  v0 := Try.zeroValue0
  t3 := Try.underlying3
  a3 := Try.isAgg3
  z3 := Try.sizeOf3
  v3 := Try.zeroValue3
  t4 := Try.underlying4
  a4 := Try.isAgg4
  z4 := Try.sizeOf4
  v4 := Try.zeroValue4
  t5 := Try.underlying5
  a5 := Try.isAgg5
  z5 := Try.sizeOf5
  v5 := Try.zeroValue5
  t9 := Try.underlying9
  a9 := Try.isAgg9
  z9 := Try.sizeOf9
  v9 := Try.zeroValue9
  t20 := Try.underlying20
  a20 := Try.isAgg20
  z20 := Try.sizeOf20
  v20 := Try.zeroValue20
  t37 := Try.underlying31
  a37 := Try.isAgg31
  z37 := Try.sizeOf31
  v37 := Try.zeroValue31
  t46 := Try.underlying27
  a46 := Try.isAgg27
  z46 := Try.sizeOf27
  v46 := Try.zeroValue27
  t51 := Try.underlying41
  a51 := Try.isAgg41
  z51 := Try.sizeOf41
  v51 := Try.zeroValue41
  t53 := Try.underlying44
  a53 := Try.isAgg44
  z53 := Try.sizeOf44
  v53 := Try.zeroValue44
  t70 := Try.underlying30
  a70 := Try.isAgg30
  z70 := Try.sizeOf30
  v70 := Try.zeroValue30
  t72 := Try.underlying33
  a72 := Try.isAgg33
  z72 := Try.sizeOf33
  v72 := Try.zeroValue33
  t75 := Try.underlying36
  a75 := Try.isAgg36
  z75 := Try.sizeOf36
  v75 := Try.zeroValue36
  t76 := Try.underlying37
  a76 := Try.isAgg37
  z76 := Try.sizeOf37
  v76 := Try.zeroValue37
  t109 := Try.underlying28
  a109 := Try.isAgg28
  z109 := Try.sizeOf28
  v109 := Try.zeroValue28
  t127 := Try.underlying47
  a127 := Try.isAgg47
  z127 := Try.sizeOf47
  v127 := Try.zeroValue47
  t146 := Try.underlying42
  a146 := Try.isAgg42
  z146 := Try.sizeOf42
  v146 := Try.zeroValue42
  t148 := Try.underlying45
  a148 := Try.isAgg45
  z148 := Try.sizeOf45
  v148 := Try.zeroValue45
  t164 := Try.underlying48
  a164 := Try.isAgg48
  z164 := Try.sizeOf48
  v164 := Try.zeroValue48 }
theorem Try.Builder_Extra_105 : Builder.Extra Try.prog Try.lays105_ren := {
  sizeBuilder := by kernel_rfl
  liesBuilder := by kernel_rfl
  t5 := Try.underlying5
  a5 := Try.isAgg5
  z5 := Try.sizeOf5
  v5 := Try.zeroValue5
  infoByte := by kernel_rfl
  cellsByte := by kernel_rfl
  sizeByte := by kernel_rfl
  neB5 := by decide }
open Go.RowKit Go.Lib in
theorem Try.strings_Repeat (s : ByteArray) (c : Nat) (w : World) (hc : c ≤ 9223372036854775807) (hlen : s.size * c ≤ 140737488355328) :
    Calls Try.prog 10 #[.string s, .int .i64 c] w fun e w' => e = .returned (.string ⟨(Lib.repeatL s.data.toList c).toArray⟩) ∧ Below w.heap.size w w' := Any.strings_Repeat Try.lays105 Try.Builder_Extra_105 s c w hc hlen
end Go.Proofs
