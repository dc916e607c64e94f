/-
  DERIVED: THE SHELF's CONTRACTS AT THIS DUMP, IN PLAIN WORDS (tools/lay-plain.mjs out of 'TrydShelf.lean', which tools/lay-shelf.mjs wrote): THE SAME DECLARATIONS UNDER THE SAME NAMES: 'import', 'namespace', 'open', 'def', 'theorem' AND NOTHING ELSE: no command of the shelf's: FOR A HAND-IN. Each laying: the table of numbers ('.._ren') and one theorem, a field a fact of the dump's own or the kernel's comparison; each contract: ONE APPLICATION.
-/
import Derived.Shelf.Strings.OnBuilder
import Derived.Shelf.Strings.FieldsAny
import Derived.Test.YtmphoafjeojodaaDoorProg
namespace Go.Proofs
open Go.Shelf
def Tryd.lays156_ren : Go.Shelf.Ren := ⟨fun | 156 => 10 | 165 => 14 | 166 => 15 | 169 => 16 | 240 => 27 | 241 => 28 | 276 => 32 | 277 => 33 | n => n, fun | 31 => 32 | 9 => 9 | 3 => 3 | 4 => 4 | 0 => 0 | 20 => 20 | 72 => 39 | 76 => 43 | 70 => 37 | 37 => 22 | 75 => 42 | 127 => 62 | 164 => 71 | 5 => 5 | 80 => 45 | n => n, fun | n => n⟩
theorem Tryd.lays156 : Go.Proofs.Lays.n156 Tryd.prog Tryd.lays156_ren := {
  mixed := by kernel_rfl
  f156 := Tryd.func10.trans (congrArg some (by kernel_rfl))
  f165 := Tryd.func14.trans (congrArg some (by kernel_rfl))
  f166 := Tryd.func15.trans (congrArg some (by kernel_rfl))
  f169 := Tryd.func16.trans (congrArg some (by kernel_rfl))
  f240 := Tryd.func27.trans (congrArg some (by kernel_rfl))
  f241 := Tryd.func28.trans (congrArg some (by kernel_rfl))
  f276 := Tryd.func32.trans (congrArg some (by kernel_rfl))
  f277 := Tryd.func33.trans (congrArg some (by kernel_rfl))
  t0 := Tryd.underlying0
  a0 := Tryd.isAgg0
  z0 := Tryd.sizeOf0
  v0 := Tryd.zeroValue0
  t3 := Tryd.underlying3
  a3 := Tryd.isAgg3
  z3 := Tryd.sizeOf3
  v3 := Tryd.zeroValue3
  t4 := Tryd.underlying4
  a4 := Tryd.isAgg4
  z4 := Tryd.sizeOf4
  v4 := Tryd.zeroValue4
  t9 := Tryd.underlying9
  a9 := Tryd.isAgg9
  z9 := Tryd.sizeOf9
  v9 := Tryd.zeroValue9
  t20 := Tryd.underlying20
  a20 := Tryd.isAgg20
  z20 := Tryd.sizeOf20
  v20 := Tryd.zeroValue20
  t31 := Tryd.underlying32
  a31 := Tryd.isAgg32
  z31 := Tryd.sizeOf32
  v31 := Tryd.zeroValue32
  t37 := Tryd.underlying22
  a37 := Tryd.isAgg22
  z37 := Tryd.sizeOf22
  v37 := Tryd.zeroValue22
  t70 := Tryd.underlying37
  a70 := Tryd.isAgg37
  z70 := Tryd.sizeOf37
  v70 := Tryd.zeroValue37
  t72 := Tryd.underlying39
  a72 := Tryd.isAgg39
  z72 := Tryd.sizeOf39
  v72 := Tryd.zeroValue39
  t75 := Tryd.underlying42
  a75 := Tryd.isAgg42
  z75 := Tryd.sizeOf42
  v75 := Tryd.zeroValue42
  t76 := Tryd.underlying43
  a76 := Tryd.isAgg43
  z76 := Tryd.sizeOf43
  v76 := Tryd.zeroValue43
  t127 := Tryd.underlying62
  a127 := Tryd.isAgg62
  z127 := Tryd.sizeOf62
  v127 := Tryd.zeroValue62
  t164 := Tryd.underlying71
  a164 := Tryd.isAgg71
  z164 := Tryd.sizeOf71
  v164 := Tryd.zeroValue71 }
theorem Tryd.Builder_Extra_156 : Builder.Extra Tryd.prog Tryd.lays156_ren := {
  sizeBuilder := by kernel_rfl
  liesBuilder := by kernel_rfl
  t5 := Tryd.underlying5
  a5 := Tryd.isAgg5
  z5 := Tryd.sizeOf5
  v5 := Tryd.zeroValue5
  infoByte := by kernel_rfl
  cellsByte := by kernel_rfl
  sizeByte := by kernel_rfl
  neB5 := by decide }
open Go.RowKit in
/-- No element: the empty string; the world is as it was. (Whatever the slice's address and capacity: a nil slice too.) (LAID: no walk: one application.) -/
theorem Tryd.strings_Join_none (a : Option Addr) (c : Nat) (sep : ByteArray) (w : World) :
    Calls Tryd.prog 10 #[.slice a 0 c, .string sep] w fun e w' => e = .returned (.string ⟨#[]⟩) ∧ w' = w := Any.strings_Join_none Tryd.lays156 Tryd.Builder_Extra_156 a c sep w
open Go.RowKit in
/-- strings.Join: "Join concatenates the elements of its first argument to create a single string. The separator string sep is placed between elements in the resulting string.": HOWEVER MANY ELEMENTS. Below the heap's end the world is as it was. (LAID: no walk: one application.) -/
theorem Tryd.strings_Join (bk o c : Nat) (xs : List ByteArray) (sep : ByteArray) (w : World) (hcells : ∀ (j : Nat) x, xs[j]? = some x → w.cell? ⟨bk, o + j, none⟩ = some (.string x)) (hbk : bk < w.heap.size) (hN : xs.length ≤ 140737488355328) (hcap : xs.length ≤ c) (hlen : (Lib.join (xs.map (·.data.toList)) sep.data.toList).length ≤ 140737488355328) :
    Calls Tryd.prog 10 #[.slice (some ⟨bk, o, none⟩) xs.length c, .string sep] w fun e w' => e = .returned (.string ⟨(Lib.join (xs.map (·.data.toList)) sep.data.toList).toArray⟩) ∧ Below w.heap.size w w' := Any.strings_Join Tryd.lays156 Tryd.Builder_Extra_156 bk o c xs sep w hcells hbk hN hcap hlen
def Tryd.lays157_ren : Go.Shelf.Ren := ⟨fun | 157 => 11 | 229 => 17 | 199 => 18 | 261 => 29 | 311 => 34 | 312 => 35 | n => n, fun | 9 => 9 | 31 => 32 | 3 => 3 | 5 => 5 | 4 => 4 | 119 => 46 | 0 => 0 | 40 => 48 | 152 => 63 | 21 => 21 | 154 => 65 | 51 => 66 | 141 => 68 | 196 => 77 | 193 => 74 | 198 => 80 | 49 => 78 | 194 => 75 | 201 => 83 | 226 => 85 | 46 => 35 | 227 => 86 | n => n, fun | 0 => 0 | 6 => 1 | n => n⟩
theorem Tryd.lays157 : Go.Proofs.Lays.n157 Tryd.prog Tryd.lays157_ren := {
  mixed := by kernel_rfl
  f157 := Tryd.func11.trans (congrArg some (by kernel_rfl))
  f199 := Tryd.func18.trans (congrArg some (by kernel_rfl))
  f229 := Tryd.func17.trans (congrArg some (by kernel_rfl))
  f261 := Tryd.func29.trans (congrArg some (by kernel_rfl))
  f311 := Tryd.func34.trans (congrArg some (by kernel_rfl))
  f312 := Tryd.func35.trans (congrArg some (by kernel_rfl))
  t0 := Tryd.underlying0
  a0 := Tryd.isAgg0
  z0 := Tryd.sizeOf0
  v0 := Tryd.zeroValue0
  t3 := Tryd.underlying3
  a3 := Tryd.isAgg3
  z3 := Tryd.sizeOf3
  v3 := Tryd.zeroValue3
  t4 := Tryd.underlying4
  a4 := Tryd.isAgg4
  z4 := Tryd.sizeOf4
  v4 := Tryd.zeroValue4
  t5 := Tryd.underlying5
  a5 := Tryd.isAgg5
  z5 := Tryd.sizeOf5
  v5 := Tryd.zeroValue5
  t9 := Tryd.underlying9
  a9 := Tryd.isAgg9
  z9 := Tryd.sizeOf9
  v9 := Tryd.zeroValue9
  t21 := Tryd.underlying21
  a21 := Tryd.isAgg21
  z21 := Tryd.sizeOf21
  v21 := Tryd.zeroValue21
  t31 := Tryd.underlying32
  a31 := Tryd.isAgg32
  z31 := Tryd.sizeOf32
  v31 := Tryd.zeroValue32
  t40 := Tryd.underlying48
  a40 := Tryd.isAgg48
  z40 := Tryd.sizeOf48
  v40 := Tryd.zeroValue48
  t46 := Tryd.underlying35
  a46 := Tryd.isAgg35
  z46 := Tryd.sizeOf35
  v46 := Tryd.zeroValue35
  t49 := Tryd.underlying78
  a49 := Tryd.isAgg78
  z49 := Tryd.sizeOf78
  v49 := Tryd.zeroValue78
  t51 := Tryd.underlying66
  a51 := Tryd.isAgg66
  z51 := Tryd.sizeOf66
  v51 := Tryd.zeroValue66
  t119 := Tryd.underlying46
  a119 := Tryd.isAgg46
  z119 := Tryd.sizeOf46
  t141 := Tryd.underlying68
  a141 := Tryd.isAgg68
  z141 := Tryd.sizeOf68
  v141 := Tryd.zeroValue68
  t152 := Tryd.underlying63
  a152 := Tryd.isAgg63
  z152 := Tryd.sizeOf63
  v152 := Tryd.zeroValue63
  t154 := Tryd.underlying65
  a154 := Tryd.isAgg65
  z154 := Tryd.sizeOf65
  v154 := Tryd.zeroValue65
  t193 := Tryd.underlying74
  a193 := Tryd.isAgg74
  z193 := Tryd.sizeOf74
  v193 := Tryd.zeroValue74
  t194 := Tryd.underlying75
  a194 := Tryd.isAgg75
  z194 := Tryd.sizeOf75
  v194 := Tryd.zeroValue75
  t196 := Tryd.underlying77
  a196 := Tryd.isAgg77
  z196 := Tryd.sizeOf77
  v196 := Tryd.zeroValue77
  t198 := Tryd.underlying80
  a198 := Tryd.isAgg80
  z198 := Tryd.sizeOf80
  v198 := Tryd.zeroValue80
  t201 := Tryd.underlying83
  a201 := Tryd.isAgg83
  z201 := Tryd.sizeOf83
  v201 := Tryd.zeroValue83
  t226 := Tryd.underlying85
  a226 := Tryd.isAgg85
  z226 := Tryd.sizeOf85
  v226 := Tryd.zeroValue85
  t227 := Tryd.underlying86
  a227 := Tryd.isAgg86
  z227 := Tryd.sizeOf86
  v227 := Tryd.zeroValue86
  g0 := by kernel_rfl
  g6 := by kernel_rfl }
open Go.RowKit Go.Lib in
/-- **strings.Fields AT EVERY STRING, VALID UTF-8 OR NOT.** (LAID: no walk: one application.) -/
theorem Tryd.strings_Fields_any (s : ByteArray) (w : World) (hs : s.size < 4294967281) (htab : Lib.TabIs Tryd.prog w "strings.asciiSpace" .u8 Lib.asciiSpaceTab) (hW : Lib.WhiteTab 1 w) :
    Calls Tryd.prog 11 #[.string s] w fun e w' => ∃ A, e = .returned (.slice (some ⟨A, 0, none⟩) (Lib.fieldsD s.data.toList).length (Lib.fieldsD s.data.toList).length) ∧ w.heap.size ≤ A ∧
      w'.ownsRow w.heap.size 9 1 (.slice (some ⟨A, 0, none⟩) (Lib.fieldsD s.data.toList).length (Lib.fieldsD s.data.toList).length) (Lib.fieldsD s.data.toList).length ((Lib.fieldsD s.data.toList).map fun x => Value.string ⟨x.toArray⟩) ∧ Below w.heap.size w w' := Any.strings_Fields_any Tryd.lays157 (by kernel_rfl) (by kernel_rfl) (by kernel_rfl) s w hs htab hW
end Go.Proofs
