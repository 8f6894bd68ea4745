/-
  DERIVED: THE SHELF's CONTRACTS AT THIS DUMP, IN PLAIN WORDS (tools/lay-plain.mjs out of 'TryzShelf.lean', which tools/lay-shelf.mjs wrote): THE SAME DECLARATIONS UNDER THE SAME NAMES: 'import', 'namespace', 'open', 'def', 'theorem' AND NOTHING ELSE: no command of the shelf's: FOR A HAND-IN. Each laying: the table of numbers ('.._ren') and one theorem, a field a fact of the dump's own or the kernel's comparison; each contract: ONE APPLICATION.
-/
import Derived.Shelf.Strings.OnBuilder
import Derived.Ground.MnProg
import Derived.Shelf.Bin.BEUint16
import Derived.Shelf.Bin.BEAppendUint16
import Derived.Shelf.Bin.BEAppendUint16Arg
import Derived.Test.YtplkcmlpomjojaaGreatDoorProg
namespace Go.Proofs
open Go.Shelf
def Tryz.lays158_ren : Go.Shelf.Ren := ⟨fun | 158 => 114 | 165 => 139 | 166 => 140 | 167 => 141 | 169 => 142 | 230 => 143 | 203 => 144 | 240 => 160 | 241 => 161 | 197 => 162 | 118 => 163 | 168 => 164 | 270 => 165 | 262 => 166 | 276 => 175 | 277 => 176 | 260 => 177 | 242 => 178 | 313 => 179 | 278 => 183 | 274 => 184 | 275 => 185 | n => n, fun | 9 => 9 | 4 => 4 | 3 => 3 | 5 => 5 | 72 => 180 | 0 => 0 | 76 => 182 | 75 => 65 | 107 => 187 | 70 => 178 | 20 => 20 | 37 => 28 | 127 => 206 | 21 => 21 | 105 => 207 | 164 => 220 | 162 => 226 | 203 => 224 | 119 => 228 | 46 => 83 | 139 => 231 | 138 => 230 | 51 => 232 | 160 => 233 | 208 => 242 | 206 => 240 | 80 => 185 | n => n, fun | 13 => 9 | 3 => 11 | 4 => 12 | n => n⟩
theorem Tryz.lays158 : Go.Proofs.Lays.n158 Tryz.prog Tryz.lays158_ren := {
  mixed := by kernel_rfl
  f118 := Tryz.func163.trans (congrArg some (by kernel_rfl))
  f158 := Tryz.func114.trans (congrArg some (by kernel_rfl))
  f165 := Tryz.func139.trans (congrArg some (by kernel_rfl))
  f166 := Tryz.func140.trans (congrArg some (by kernel_rfl))
  f167 := Tryz.func141.trans (congrArg some (by kernel_rfl))
  f168 := Tryz.func164.trans (congrArg some (by kernel_rfl))
  f169 := Tryz.func142.trans (congrArg some (by kernel_rfl))
  f197 := Tryz.func162.trans (congrArg some (by kernel_rfl))
  f203 := Tryz.func144.trans (congrArg some (by kernel_rfl))
  f230 := Tryz.func143.trans (congrArg some (by kernel_rfl))
  f240 := Tryz.func160.trans (congrArg some (by kernel_rfl))
  f241 := Tryz.func161.trans (congrArg some (by kernel_rfl))
  f242 := Tryz.func178.trans (congrArg some (by kernel_rfl))
  f260 := Tryz.func177.trans (congrArg some (by kernel_rfl))
  f262 := Tryz.func166.trans (congrArg some (by kernel_rfl))
  f270 := Tryz.func165.trans (congrArg some (by kernel_rfl))
  f274 := Tryz.func184.trans (congrArg some (by kernel_rfl))
  f275 := Tryz.func185.trans (congrArg some (by kernel_rfl))
  f276 := Tryz.func175.trans (congrArg some (by kernel_rfl))
  f277 := Tryz.func176.trans (congrArg some (by kernel_rfl))
  f278 := Tryz.func183.trans (congrArg some (by kernel_rfl))
  f313 := Tryz.func179.trans (congrArg some (by kernel_rfl))
  t0 := Tryz.underlying0
  a0 := Tryz.isAgg0
  z0 := Tryz.sizeOf0
  v0 := Tryz.zeroValue0
  t3 := Tryz.underlying3
  a3 := Tryz.isAgg3
  z3 := Tryz.sizeOf3
  v3 := Tryz.zeroValue3
  t4 := Tryz.underlying4
  a4 := Tryz.isAgg4
  z4 := Tryz.sizeOf4
  v4 := Tryz.zeroValue4
  t5 := Tryz.underlying5
  a5 := Tryz.isAgg5
  z5 := Tryz.sizeOf5
  v5 := Tryz.zeroValue5
  t9 := Tryz.underlying9
  a9 := Tryz.isAgg9
  z9 := Tryz.sizeOf9
  v9 := Tryz.zeroValue9
  t20 := Tryz.underlying20
  a20 := Tryz.isAgg20
  z20 := Tryz.sizeOf20
  v20 := Tryz.zeroValue20
  t21 := Tryz.underlying21
  a21 := Tryz.isAgg21
  z21 := Tryz.sizeOf21
  v21 := Tryz.zeroValue21
  t37 := Tryz.underlying28
  a37 := Tryz.isAgg28
  z37 := Tryz.sizeOf28
  v37 := Tryz.zeroValue28
  t46 := Tryz.underlying83
  a46 := Tryz.isAgg83
  z46 := Tryz.sizeOf83
  v46 := Tryz.zeroValue83
  t51 := Tryz.underlying232
  a51 := Tryz.isAgg232
  z51 := Tryz.sizeOf232
  v51 := Tryz.zeroValue232
  t70 := Tryz.underlying178
  a70 := Tryz.isAgg178
  z70 := Tryz.sizeOf178
  v70 := Tryz.zeroValue178
  t72 := Tryz.underlying180
  a72 := Tryz.isAgg180
  z72 := Tryz.sizeOf180
  v72 := Tryz.zeroValue180
  t75 := Tryz.underlying65
  a75 := Tryz.isAgg65
  z75 := Tryz.sizeOf65
  v75 := Tryz.zeroValue65
  t76 := Tryz.underlying182
  a76 := Tryz.isAgg182
  z76 := Tryz.sizeOf182
  v76 := Tryz.zeroValue182
  t105 := Tryz.underlying207
  a105 := Tryz.isAgg207
  z105 := Tryz.sizeOf207
  v105 := Tryz.zeroValue207
  t107 := Tryz.underlying187
  a107 := Tryz.isAgg187
  z107 := Tryz.sizeOf187
  v107 := Tryz.zeroValue187
  t119 := Tryz.underlying228
  a119 := Tryz.isAgg228
  z119 := Tryz.sizeOf228
  t127 := Tryz.underlying206
  a127 := Tryz.isAgg206
  z127 := Tryz.sizeOf206
  v127 := Tryz.zeroValue206
  t138 := Tryz.underlying230
  a138 := Tryz.isAgg230
  z138 := Tryz.sizeOf230
  v138 := Tryz.zeroValue230
  t139 := Tryz.underlying231
  a139 := Tryz.isAgg231
  z139 := Tryz.sizeOf231
  v139 := Tryz.zeroValue231
  t160 := Tryz.underlying233
  a160 := Tryz.isAgg233
  z160 := Tryz.sizeOf233
  v160 := Tryz.zeroValue233
  t162 := Tryz.underlying226
  a162 := Tryz.isAgg226
  z162 := Tryz.sizeOf226
  v162 := Tryz.zeroValue226
  t164 := Tryz.underlying220
  a164 := Tryz.isAgg220
  z164 := Tryz.sizeOf220
  v164 := Tryz.zeroValue220
  t203 := Tryz.underlying224
  a203 := Tryz.isAgg224
  z203 := Tryz.sizeOf224
  v203 := Tryz.zeroValue224
  t206 := Tryz.underlying240
  a206 := Tryz.isAgg240
  z206 := Tryz.sizeOf240
  v206 := Tryz.zeroValue240
  t208 := Tryz.underlying242
  a208 := Tryz.isAgg242
  z208 := Tryz.sizeOf242
  v208 := Tryz.zeroValue242
  g3 := by kernel_rfl
  g4 := by kernel_rfl
  g13 := by kernel_rfl }
theorem Tryz.Builder_Extra_158 : Builder.Extra Tryz.prog Tryz.lays158_ren := {
  sizeBuilder := by kernel_rfl
  liesBuilder := by kernel_rfl
  t5 := Tryz.underlying5
  a5 := Tryz.isAgg5
  z5 := Tryz.sizeOf5
  v5 := Tryz.zeroValue5
  infoByte := by kernel_rfl
  cellsByte := by kernel_rfl
  sizeByte := by kernel_rfl
  neB5 := by decide }
open Go.RowKit in
/-- strings.ToUpper: "ToUpper returns s with all Unicode letters mapped to their upper case.": ON ASCII TEXT OF AT MOST 2^47 BYTES. Below the heap's end the world is as it was: where a letter turns, the call makes a builder and its buffer. (LAID: no walk: one application.) -/
theorem Tryz.strings_ToUpper_ascii (s : ByteArray) (w : World) (hs : s.size ≤ 140737488355328) (hascii : ∀ (j : Nat) (b : UInt8), s.data.toList[j]? = some b → b.toNat < 128) :
    Calls Tryz.prog 114 #[.string s] w fun e w' => e = .returned (.string ⟨(Lib.toUpperA s.data.toList).toArray⟩) ∧ Below w.heap.size w w' := Any.strings_ToUpper_ascii Tryz.lays158 Tryz.Builder_Extra_158 s w hs hascii
def Tryz.laysBin36_ren : Go.Shelf.Ren := ⟨fun | 36 => 86 | n => n, fun | 37 => 119 | 22 => 28 | 23 => 84 | 0 => 0 | 5 => 5 | 45 => 83 | n => n, fun | n => n⟩
theorem Tryz.laysBin36 : Go.Proofs.LaysBin.n36 Tryz.prog Tryz.laysBin36_ren := {
  mixed := by kernel_rfl
  f36 := Tryz.func86.trans (congrArg some (by kernel_rfl))
  t0 := Tryz.underlying0
  a0 := Tryz.isAgg0
  z0 := Tryz.sizeOf0
  v0 := Tryz.zeroValue0
  i0 := by kernel_rfl
  t5 := Tryz.underlying5
  a5 := Tryz.isAgg5
  z5 := Tryz.sizeOf5
  v5 := Tryz.zeroValue5
  i5 := by kernel_rfl
  t22 := Tryz.underlying28
  a22 := Tryz.isAgg28
  z22 := Tryz.sizeOf28
  v22 := Tryz.zeroValue28
  i22 := by kernel_rfl
  t23 := Tryz.underlying84
  a23 := Tryz.isAgg84
  z23 := Tryz.sizeOf84
  v23 := Tryz.zeroValue84
  i23 := by kernel_rfl
  t37 := Tryz.underlying119
  a37 := Tryz.isAgg119
  z37 := Tryz.sizeOf119
  v37 := Tryz.zeroValue119
  i37 := by kernel_rfl
  t45 := Tryz.underlying83
  a45 := Tryz.isAgg83
  z45 := Tryz.sizeOf83
  v45 := Tryz.zeroValue83
  i45 := by kernel_rfl }
open Go.RowKit in
/-- binary.BigEndian.Uint16: "Uint16 returns the uint16 representation of b[0:2].": THE NUMBER THAT THE FIRST 2 BYTES SPELL, the greatest byte first ('Lib.beNat'). Of what was there nothing has turned (the receiver, an empty struct, is laid in a new block without cells; the statement's order is drawn). (LAID: no walk: one application.) -/
theorem Tryz.binary_BE_Uint16 (g o n c : Nat) (b0 b1 : UInt8) (w : World) (hn : 2 ≤ n) (c0 : w.cell? ⟨g, o, none⟩ = some (.int .u8 b0.toNat)) (c1 : w.cell? ⟨g, o + 1, none⟩ = some (.int .u8 b1.toNat)) :
    Calls Tryz.prog 86 #[.agg #[], .slice (some ⟨g, o, none⟩) n c] w fun e w' => e = .returned (.int .u16 (Lib.beNat [b0, b1])) ∧ Below w.heap.size w w' := Any.binary_BE_Uint16 Tryz.laysBin36 g o n c b0 b1 w hn c0 c1
def Tryz.laysBin38_ren : Go.Shelf.Ren := ⟨fun | 38 => 83 | n => n, fun | 37 => 119 | 22 => 28 | 23 => 84 | 0 => 0 | 45 => 83 | 5 => 5 | n => n, fun | n => n⟩
theorem Tryz.laysBin38 : Go.Proofs.LaysBin.n38 Tryz.prog Tryz.laysBin38_ren := {
  mixed := by kernel_rfl
  f38 := Tryz.func83.trans (congrArg some (by kernel_rfl))
  t0 := Tryz.underlying0
  a0 := Tryz.isAgg0
  z0 := Tryz.sizeOf0
  v0 := Tryz.zeroValue0
  i0 := by kernel_rfl
  t5 := Tryz.underlying5
  a5 := Tryz.isAgg5
  z5 := Tryz.sizeOf5
  v5 := Tryz.zeroValue5
  i5 := by kernel_rfl
  t22 := Tryz.underlying28
  a22 := Tryz.isAgg28
  z22 := Tryz.sizeOf28
  v22 := Tryz.zeroValue28
  i22 := by kernel_rfl
  t23 := Tryz.underlying84
  a23 := Tryz.isAgg84
  z23 := Tryz.sizeOf84
  v23 := Tryz.zeroValue84
  i23 := by kernel_rfl
  t37 := Tryz.underlying119
  a37 := Tryz.isAgg119
  z37 := Tryz.sizeOf119
  v37 := Tryz.zeroValue119
  i37 := by kernel_rfl
  t45 := Tryz.underlying83
  a45 := Tryz.isAgg83
  z45 := Tryz.sizeOf83
  v45 := Tryz.zeroValue83
  i45 := by kernel_rfl }
open Go.RowKit in
/-- binary.BigEndian.AppendUint16: "AppendUint16 appends the bytes of v to b and returns the appended slice.": WHAT COMES BACK OWNS b's CELLS AND, BEHIND THEM, v's 2 BYTES, the greatest first ('Lib.beBytes 2 v'). Below the call's own blocks nothing has turned. (LAID: no walk: one application.) -/
theorem Tryz.binary_BE_AppendUint16 (B n v : Nat) (hv : v < 65536) (sv : Value) (xs : List Value) (w : World) (hown : w.ownsRow B 5 1 sv n xs) (hBw : B ≤ w.heap.size) (hlim : n + 2 ≤ 140737488355328) :
    Calls Tryz.prog 83 #[.agg #[], sv, .int .u16 v] w fun e w' => ∃ v', e = .returned v' ∧ w'.ownsRow B 5 1 v' (n + 2) (xs ++ Lib.byteCells (Lib.beBytes 2 v)) ∧ Below B w w' := Any.binary_BE_AppendUint16 Tryz.laysBin38 B n v hv sv xs w hown hBw hlim
open Go.RowKit in
/-- binary.BigEndian.AppendUint16, b A SLICE THAT CAME IN, holding 'olds': WHERE n + 2 ≤ cap: THE SAME BASE, 2 LONGER; v's bytes are laid in b's spare capacity ('World.setCells'): WHOEVER SHARES THAT MEMORY SEES THEM. WHERE NOT: a slice that owns 'olds' and v's bytes in a new row; of what was there nothing has turned. (LAID: no walk: one application.) -/
theorem Tryz.binary_BE_AppendUint16_arg (g o n cap v : Nat) (hv : v < 65536) (olds : List Value) (w : World) (hlo : olds.length = n) (holds : ∀ j u, olds[j]? = some u → w.cell? ⟨g, o + j, none⟩ = some u) (hspare : n + 2 ≤ cap → ∀ j, j < 2 → (w.cell? ⟨g, o + n + j, none⟩).isSome = true ∧ w.frozen? ⟨g, o + n + j, none⟩ = false) (hlim : n + 2 ≤ 140737488355328) :
    Calls Tryz.prog 83 #[.agg #[], .slice (some ⟨g, o, none⟩) n cap, .int .u16 v] w fun e w' =>
      (n + 2 ≤ cap ∧ e = .returned (.slice (some ⟨g, o, none⟩) (n + 2) cap) ∧ w' = ((w.alloc (.cells #[] 119)).alloc (.cells (Lib.byteCells (Lib.beBytes 2 v)).toArray 5)).setCells g (o + n) (Lib.byteCells (Lib.beBytes 2 v))) ∨
      (cap < n + 2 ∧ ∃ v', e = .returned v' ∧ w'.ownsRow (w.heap.size + 2) 5 1 v' (n + 2) (olds ++ Lib.byteCells (Lib.beBytes 2 v)) ∧ Below w.heap.size w w') := Any.binary_BE_AppendUint16_arg Tryz.laysBin38 g o n cap v hv olds w hlo holds hspare hlim
end Go.Proofs
