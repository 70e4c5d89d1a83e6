/-
  The shelf contracts that this seat uses, at this dump, in plain words (laid by the guide s own lay-shelf and lay-plain tools; remarks struck).
-/
import Derived.Shelf.Strings.OnBuilder
import Derived.Shelf.Strings.LastIndex
import Derived.Shelf.Strings.Prefix
import Derived.Shelf.Strings.FieldsAny
import Derived.Test.Qxb6628254aDoorProg
namespace Go.Proofs
open Go.Shelf
def Tryd.lays156_ren : Go.Shelf.Ren := ⟨fun | 156 => 22 | 165 => 34 | 166 => 35 | 169 => 36 | 240 => 40 | 241 => 41 | 276 => 47 | 277 => 48 | n => n, fun | 31 => 22 | 9 => 9 | 3 => 3 | 4 => 4 | 0 => 0 | 20 => 20 | 72 => 56 | 76 => 60 | 70 => 54 | 37 => 50 | 75 => 59 | 127 => 70 | 164 => 83 | 5 => 5 | 80 => 62 | n => n, fun | n => n⟩
theorem Tryd.lays156 : Go.Proofs.Lays.n156 Tryd.prog Tryd.lays156_ren := {
  mixed := by kernel_rfl
  f156 := Tryd.func22.trans (congrArg some (by kernel_rfl))
  f165 := Tryd.func34.trans (congrArg some (by kernel_rfl))
  f166 := Tryd.func35.trans (congrArg some (by kernel_rfl))
  f169 := Tryd.func36.trans (congrArg some (by kernel_rfl))
  f240 := Tryd.func40.trans (congrArg some (by kernel_rfl))
  f241 := Tryd.func41.trans (congrArg some (by kernel_rfl))
  f276 := Tryd.func47.trans (congrArg some (by kernel_rfl))
  f277 := Tryd.func48.trans (congrArg some (by kernel_rfl))
  t0 := Tryd.underlying0
  a0 := Tryd.isAgg0
  z0 := Tryd.sizeOf0
  v0 := Tryd.zeroValue0
  t3 := Tryd.underlying3
  a3 := Tryd.isAgg3
  z3 := Tryd.sizeOf3
  v3 := Tryd.zeroValue3
  t4 := Tryd.underlying4
  a4 := Tryd.isAgg4
  z4 := Tryd.sizeOf4
  v4 := Tryd.zeroValue4
  t9 := Tryd.underlying9
  a9 := Tryd.isAgg9
  z9 := Tryd.sizeOf9
  v9 := Tryd.zeroValue9
  t20 := Tryd.underlying20
  a20 := Tryd.isAgg20
  z20 := Tryd.sizeOf20
  v20 := Tryd.zeroValue20
  t31 := Tryd.underlying22
  a31 := Tryd.isAgg22
  z31 := Tryd.sizeOf22
  v31 := Tryd.zeroValue22
  t37 := Tryd.underlying50
  a37 := Tryd.isAgg50
  z37 := Tryd.sizeOf50
  v37 := Tryd.zeroValue50
  t70 := Tryd.underlying54
  a70 := Tryd.isAgg54
  z70 := Tryd.sizeOf54
  v70 := Tryd.zeroValue54
  t72 := Tryd.underlying56
  a72 := Tryd.isAgg56
  z72 := Tryd.sizeOf56
  v72 := Tryd.zeroValue56
  t75 := Tryd.underlying59
  a75 := Tryd.isAgg59
  z75 := Tryd.sizeOf59
  v75 := Tryd.zeroValue59
  t76 := Tryd.underlying60
  a76 := Tryd.isAgg60
  z76 := Tryd.sizeOf60
  v76 := Tryd.zeroValue60
  t127 := Tryd.underlying70
  a127 := Tryd.isAgg70
  z127 := Tryd.sizeOf70
  v127 := Tryd.zeroValue70
  t164 := Tryd.underlying83
  a164 := Tryd.isAgg83
  z164 := Tryd.sizeOf83
  v164 := Tryd.zeroValue83 }
theorem Tryd.Builder_Extra_156 : Builder.Extra Tryd.prog Tryd.lays156_ren := {
  sizeBuilder := by kernel_rfl
  liesBuilder := by kernel_rfl
  t5 := Tryd.underlying5
  a5 := Tryd.isAgg5
  z5 := Tryd.sizeOf5
  v5 := Tryd.zeroValue5
  infoByte := by kernel_rfl
  cellsByte := by kernel_rfl
  sizeByte := by kernel_rfl
  neB5 := by decide }
open Go.RowKit in
theorem Tryd.strings_Join (bk o c : Nat) (xs : List ByteArray) (sep : ByteArray) (w : World) (hcells : ∀ (j : Nat) x, xs[j]? = some x → w.cell? ⟨bk, o + j, none⟩ = some (.string x)) (hbk : bk < w.heap.size) (hN : xs.length ≤ 140737488355328) (hcap : xs.length ≤ c) (hlen : (Lib.join (xs.map (·.data.toList)) sep.data.toList).length ≤ 140737488355328) :
    Calls Tryd.prog 22 #[.slice (some ⟨bk, o, none⟩) xs.length c, .string sep] w fun e w' => e = .returned (.string ⟨(Lib.join (xs.map (·.data.toList)) sep.data.toList).toArray⟩) ∧ Below w.heap.size w w' := Any.strings_Join Tryd.lays156 Tryd.Builder_Extra_156 bk o c xs sep w hcells hbk hN hcap hlen
def Tryd.lays148_ren : Go.Shelf.Ren := ⟨fun | 148 => 37 | 222 => 42 | 223 => 43 | 269 => 49 | n => n, fun | 9 => 9 | 3 => 3 | 4 => 4 | 5 => 5 | 146 => 86 | 51 => 67 | 46 => 89 | n => n, fun | n => n⟩
theorem Tryd.lays148 : Go.Proofs.Lays.n148 Tryd.prog Tryd.lays148_ren := {
  mixed := by kernel_rfl
  f148 := Tryd.func37.trans (congrArg some (by kernel_rfl))
  f222 := Tryd.func42.trans (congrArg some (by kernel_rfl))
  f223 := Tryd.func43.trans (congrArg some (by kernel_rfl))
  f269 := Tryd.func49.trans (congrArg some (by kernel_rfl))
  t3 := Tryd.underlying3
  a3 := Tryd.isAgg3
  z3 := Tryd.sizeOf3
  v3 := Tryd.zeroValue3
  t4 := Tryd.underlying4
  a4 := Tryd.isAgg4
  z4 := Tryd.sizeOf4
  v4 := Tryd.zeroValue4
  t5 := Tryd.underlying5
  a5 := Tryd.isAgg5
  z5 := Tryd.sizeOf5
  v5 := Tryd.zeroValue5
  t9 := Tryd.underlying9
  a9 := Tryd.isAgg9
  z9 := Tryd.sizeOf9
  v9 := Tryd.zeroValue9
  t46 := Tryd.underlying89
  a46 := Tryd.isAgg89
  z46 := Tryd.sizeOf89
  v46 := Tryd.zeroValue89
  t51 := Tryd.underlying67
  a51 := Tryd.isAgg67
  z51 := Tryd.sizeOf67
  v51 := Tryd.zeroValue67
  t146 := Tryd.underlying86
  a146 := Tryd.isAgg86
  z146 := Tryd.sizeOf86
  v146 := Tryd.zeroValue86 }
open Go.RowKit Go.Lib in
theorem Tryd.strings_LastIndex_one (s sub : ByteArray) (h1 : sub.size = 1) (hs : s.size < 4611686018427387904) (w : World) :
    Calls Tryd.prog 37 #[.string s, .string sub] w fun e w' => e = .returned (.int .i64 (Lib.lastIndexByte s ((sub[0]'(by omega)).toNat : Int))) ∧ w' = w := Any.strings_LastIndex_one Tryd.lays148 s sub h1 hs w
def Tryd.lays99_ren : Go.Shelf.Ren := ⟨fun | 99 => 38 | 206 => 44 | n => n, fun | 9 => 9 | 4 => 4 | 3 => 3 | n => n, fun | n => n⟩
theorem Tryd.lays99 : Go.Proofs.Lays.n99 Tryd.prog Tryd.lays99_ren := {
  mixed := by kernel_rfl
  f99 := Tryd.func38.trans (congrArg some (by kernel_rfl))
  f206 := Tryd.func44.trans (congrArg some (by kernel_rfl))
  t3 := Tryd.underlying3
  a3 := Tryd.isAgg3
  z3 := Tryd.sizeOf3
  v3 := Tryd.zeroValue3
  t4 := Tryd.underlying4
  a4 := Tryd.isAgg4
  z4 := Tryd.sizeOf4
  v4 := Tryd.zeroValue4
  t9 := Tryd.underlying9
  a9 := Tryd.isAgg9
  z9 := Tryd.sizeOf9
  v9 := Tryd.zeroValue9 }
open Go.RowKit Go.Lib in
theorem Tryd.strings_HasPrefix (s p : ByteArray) (w : World) :
    Calls Tryd.prog 38 #[.string s, .string p] w fun e w' => e = .returned (.bool (Lib.hasPrefix s.data.toList p.data.toList)) ∧ w' = w := Any.strings_HasPrefix Tryd.lays99 s p w
def Tryd.lays157_ren : Go.Shelf.Ren := ⟨fun | 157 => 21 | 229 => 32 | 199 => 33 | 261 => 39 | 311 => 45 | 312 => 46 | n => n, fun | 9 => 9 | 31 => 22 | 3 => 3 | 5 => 5 | 4 => 4 | 119 => 51 | 0 => 0 | 40 => 53 | 152 => 64 | 21 => 21 | 154 => 66 | 51 => 67 | 141 => 69 | 196 => 75 | 193 => 72 | 198 => 78 | 49 => 76 | 194 => 73 | 201 => 81 | 226 => 88 | 46 => 89 | 227 => 90 | n => n, fun | 0 => 0 | 6 => 1 | n => n⟩
theorem Tryd.lays157 : Go.Proofs.Lays.n157 Tryd.prog Tryd.lays157_ren := {
  mixed := by kernel_rfl
  f157 := Tryd.func21.trans (congrArg some (by kernel_rfl))
  f199 := Tryd.func33.trans (congrArg some (by kernel_rfl))
  f229 := Tryd.func32.trans (congrArg some (by kernel_rfl))
  f261 := Tryd.func39.trans (congrArg some (by kernel_rfl))
  f311 := Tryd.func45.trans (congrArg some (by kernel_rfl))
  f312 := Tryd.func46.trans (congrArg some (by kernel_rfl))
  t0 := Tryd.underlying0
  a0 := Tryd.isAgg0
  z0 := Tryd.sizeOf0
  v0 := Tryd.zeroValue0
  t3 := Tryd.underlying3
  a3 := Tryd.isAgg3
  z3 := Tryd.sizeOf3
  v3 := Tryd.zeroValue3
  t4 := Tryd.underlying4
  a4 := Tryd.isAgg4
  z4 := Tryd.sizeOf4
  v4 := Tryd.zeroValue4
  t5 := Tryd.underlying5
  a5 := Tryd.isAgg5
  z5 := Tryd.sizeOf5
  v5 := Tryd.zeroValue5
  t9 := Tryd.underlying9
  a9 := Tryd.isAgg9
  z9 := Tryd.sizeOf9
  v9 := Tryd.zeroValue9
  t21 := Tryd.underlying21
  a21 := Tryd.isAgg21
  z21 := Tryd.sizeOf21
  v21 := Tryd.zeroValue21
  t31 := Tryd.underlying22
  a31 := Tryd.isAgg22
  z31 := Tryd.sizeOf22
  v31 := Tryd.zeroValue22
  t40 := Tryd.underlying53
  a40 := Tryd.isAgg53
  z40 := Tryd.sizeOf53
  v40 := Tryd.zeroValue53
  t46 := Tryd.underlying89
  a46 := Tryd.isAgg89
  z46 := Tryd.sizeOf89
  v46 := Tryd.zeroValue89
  t49 := Tryd.underlying76
  a49 := Tryd.isAgg76
  z49 := Tryd.sizeOf76
  v49 := Tryd.zeroValue76
  t51 := Tryd.underlying67
  a51 := Tryd.isAgg67
  z51 := Tryd.sizeOf67
  v51 := Tryd.zeroValue67
  t119 := Tryd.underlying51
  a119 := Tryd.isAgg51
  z119 := Tryd.sizeOf51
  t141 := Tryd.underlying69
  a141 := Tryd.isAgg69
  z141 := Tryd.sizeOf69
  v141 := Tryd.zeroValue69
  t152 := Tryd.underlying64
  a152 := Tryd.isAgg64
  z152 := Tryd.sizeOf64
  v152 := Tryd.zeroValue64
  t154 := Tryd.underlying66
  a154 := Tryd.isAgg66
  z154 := Tryd.sizeOf66
  v154 := Tryd.zeroValue66
  t193 := Tryd.underlying72
  a193 := Tryd.isAgg72
  z193 := Tryd.sizeOf72
  v193 := Tryd.zeroValue72
  t194 := Tryd.underlying73
  a194 := Tryd.isAgg73
  z194 := Tryd.sizeOf73
  v194 := Tryd.zeroValue73
  t196 := Tryd.underlying75
  a196 := Tryd.isAgg75
  z196 := Tryd.sizeOf75
  v196 := Tryd.zeroValue75
  t198 := Tryd.underlying78
  a198 := Tryd.isAgg78
  z198 := Tryd.sizeOf78
  v198 := Tryd.zeroValue78
  t201 := Tryd.underlying81
  a201 := Tryd.isAgg81
  z201 := Tryd.sizeOf81
  v201 := Tryd.zeroValue81
  t226 := Tryd.underlying88
  a226 := Tryd.isAgg88
  z226 := Tryd.sizeOf88
  v226 := Tryd.zeroValue88
  t227 := Tryd.underlying90
  a227 := Tryd.isAgg90
  z227 := Tryd.sizeOf90
  v227 := Tryd.zeroValue90
  g0 := by kernel_rfl
  g6 := by kernel_rfl }
open Go.RowKit Go.Lib in
theorem Tryd.strings_Fields_any (s : ByteArray) (w : World) (hs : s.size < 4294967281) (htab : Lib.TabIs Tryd.prog w "strings.asciiSpace" .u8 Lib.asciiSpaceTab) (hW : Lib.WhiteTab 1 w) :
    Calls Tryd.prog 21 #[.string s] w fun e w' => ∃ A, e = .returned (.slice (some ⟨A, 0, none⟩) (Lib.fieldsD s.data.toList).length (Lib.fieldsD s.data.toList).length) ∧ w.heap.size ≤ A ∧
      w'.ownsRow w.heap.size 9 1 (.slice (some ⟨A, 0, none⟩) (Lib.fieldsD s.data.toList).length (Lib.fieldsD s.data.toList).length) (Lib.fieldsD s.data.toList).length ((Lib.fieldsD s.data.toList).map fun x => Value.string ⟨x.toArray⟩) ∧ Below w.heap.size w w' := Any.strings_Fields_any Tryd.lays157 (by kernel_rfl) (by kernel_rfl) (by kernel_rfl) s w hs htab hW
end Go.Proofs
