/-
  The contracts of strconv.Itoa and binary.BigEndian.Uint16 at this dump, in plain words, as the tools lay-shelf and lay-plain of the library wrote them.
-/
import Derived.Shelf.Strconv.Itoa0
import Derived.Shelf.Strconv.Itoa1
import Derived.Shelf.LaysM
import Derived.Shelf.Strconv.Itoa2
import Derived.Shelf.Strconv.Itoa3
import Derived.Ground.MnProg
import Derived.Shelf.Bin.BEUint16
import Derived.Test.YbulkctnaFmtRows
namespace Go.Proofs
open Go.Shelf
/-- The table of powers of ten, by the row's own word. -/
def Ybaf.tabName : String := Go.Proofs.YbulkctnaFmt.Rows.lawS4758AModelRow.named.getD 2 default
def Ybaf.laysM171_ren : Go.Shelf.Ren := ⟨fun | 171 => 12 | 243 => 13 | 246 => 14 | 283 => 15 | 284 => 16 | 285 => 17 | 286 => 18 | 129 => 20 | 317 => 19 | 318 => 21 | 319 => 22 | 320 => 23 | 337 => 24 | 338 => 25 | n => n, fun | 3 => 3 | 9 => 9 | 2 => 2 | 4 => 4 | 171 => 49 | 0 => 0 | 53 => 50 | 37 => 23 | 5 => 5 | 173 => 53 | 212 => 57 | 51 => 31 | 20 => 20 | 213 => 58 | 46 => 32 | 232 => 62 | 233 => 63 | n => n, fun | 17 => 2 | 18 => 3 | 19 => 4 | n => n⟩
theorem Ybaf.laysM171 : Go.Proofs.LaysM.n171 Ybaf.prog Ybaf.laysM171_ren := {
  mixed := by kernel_rfl
  f129 := Ybaf.func20.trans (congrArg some (by kernel_rfl))
  f171 := Ybaf.func12.trans (congrArg some (by kernel_rfl))
  f243 := Ybaf.func13.trans (congrArg some (by kernel_rfl))
  f246 := Ybaf.func14.trans (congrArg some (by kernel_rfl))
  f283 := Ybaf.func15.trans (congrArg some (by kernel_rfl))
  f284 := Ybaf.func16.trans (congrArg some (by kernel_rfl))
  f285 := Ybaf.func17.trans (congrArg some (by kernel_rfl))
  f286 := Ybaf.func18.trans (congrArg some (by kernel_rfl))
  f317 := Ybaf.func19.trans (congrArg some (by kernel_rfl))
  f318 := Ybaf.func21.trans (congrArg some (by kernel_rfl))
  f319 := Ybaf.func22.trans (congrArg some (by kernel_rfl))
  f320 := Ybaf.func23.trans (congrArg some (by kernel_rfl))
  f337 := Ybaf.func24.trans (congrArg some (by kernel_rfl))
  f338 := Ybaf.func25.trans (congrArg some (by kernel_rfl))
  t0 := Ybaf.underlying0
  a0 := Ybaf.isAgg0
  z0 := Ybaf.sizeOf0
  v0 := Ybaf.zeroValue0
  t2 := Ybaf.underlying2
  a2 := Ybaf.isAgg2
  z2 := Ybaf.sizeOf2
  v2 := Ybaf.zeroValue2
  t3 := Ybaf.underlying3
  a3 := Ybaf.isAgg3
  z3 := Ybaf.sizeOf3
  v3 := Ybaf.zeroValue3
  t4 := Ybaf.underlying4
  a4 := Ybaf.isAgg4
  z4 := Ybaf.sizeOf4
  v4 := Ybaf.zeroValue4
  t5 := Ybaf.underlying5
  a5 := Ybaf.isAgg5
  z5 := Ybaf.sizeOf5
  v5 := Ybaf.zeroValue5
  t9 := Ybaf.underlying9
  a9 := Ybaf.isAgg9
  z9 := Ybaf.sizeOf9
  v9 := Ybaf.zeroValue9
  t20 := Ybaf.underlying20
  a20 := Ybaf.isAgg20
  z20 := Ybaf.sizeOf20
  v20 := Ybaf.zeroValue20
  t37 := Ybaf.underlying23
  a37 := Ybaf.isAgg23
  z37 := Ybaf.sizeOf23
  v37 := Ybaf.zeroValue23
  t46 := Ybaf.underlying32
  a46 := Ybaf.isAgg32
  z46 := Ybaf.sizeOf32
  v46 := Ybaf.zeroValue32
  t51 := Ybaf.underlying31
  a51 := Ybaf.isAgg31
  z51 := Ybaf.sizeOf31
  v51 := Ybaf.zeroValue31
  t53 := Ybaf.underlying50
  a53 := Ybaf.isAgg50
  z53 := Ybaf.sizeOf50
  v53 := Ybaf.zeroValue50
  t171 := Ybaf.underlying49
  a171 := Ybaf.isAgg49
  z171 := Ybaf.sizeOf49
  v171 := Ybaf.zeroValue49
  t173 := Ybaf.underlying53
  a173 := Ybaf.isAgg53
  z173 := Ybaf.sizeOf53
  v173 := Ybaf.zeroValue53
  t212 := Ybaf.underlying57
  a212 := Ybaf.isAgg57
  z212 := Ybaf.sizeOf57
  v212 := Ybaf.zeroValue57
  t213 := Ybaf.underlying58
  a213 := Ybaf.isAgg58
  z213 := Ybaf.sizeOf58
  t232 := Ybaf.underlying62
  a232 := Ybaf.isAgg62
  z232 := Ybaf.sizeOf62
  v232 := Ybaf.zeroValue62
  t233 := Ybaf.underlying63
  a233 := Ybaf.isAgg63
  z233 := Ybaf.sizeOf63
  v233 := Ybaf.zeroValue63
  g17 := by kernel_rfl
  g18 := by kernel_rfl
  g19 := by kernel_rfl
  i0 := by kernel_rfl
  i2 := by kernel_rfl
  i3 := by kernel_rfl
  i4 := by kernel_rfl
  i5 := by kernel_rfl
  i9 := by kernel_rfl
  i20 := by kernel_rfl
  i37 := by kernel_rfl
  i46 := by kernel_rfl
  i51 := by kernel_rfl
  i53 := by kernel_rfl
  i171 := by kernel_rfl
  i173 := by kernel_rfl
  i212 := by kernel_rfl
  i232 := by kernel_rfl
  i233 := by kernel_rfl
  m17 := by kernel_rfl
  m18 := by kernel_rfl
  m19 := by kernel_rfl }
open Go.RowKit Go.Sort Go.Lib in
/-- strconv.Itoa: "Itoa is equivalent to FormatInt(int64(i), 10).": i's DECIMAL NUMERAL ('Lib.itoa': a '-' where i is negative, then the digits), FOR EVERY int. The world behind the call: the world before it, new blocks behind the heap (the library's 'var a [24]byte'), draws. (LAID: no walk: one application.) -/
theorem Ybaf.strconv_Itoa (n : Int) (h0 : -9223372036854775808 ≤ n) (h1 : n ≤ 9223372036854775807) (w : World) (htab : Lib.TabIs Ybaf.prog w Ybaf.tabName .u64 Lib.pow10Tab) :
    Calls Ybaf.prog 12 #[.int .i64 n] w fun e w' => e = .returned (.string ⟨(Lib.itoa n).toArray⟩) ∧ ∃ k os, w' = grow (w.drewN k) os := Any.strconv_Itoa Ybaf.laysM171 n h0 h1 w htab
def Ybaf.laysBin36_ren : Go.Shelf.Ren := ⟨fun | 36 => 8 | n => n, fun | 37 => 36 | 22 => 23 | 23 => 22 | 0 => 0 | 5 => 5 | 45 => 32 | n => n, fun | n => n⟩
theorem Ybaf.laysBin36 : Go.Proofs.LaysBin.n36 Ybaf.prog Ybaf.laysBin36_ren := {
  mixed := by kernel_rfl
  f36 := Ybaf.func8.trans (congrArg some (by kernel_rfl))
  t0 := Ybaf.underlying0
  a0 := Ybaf.isAgg0
  z0 := Ybaf.sizeOf0
  v0 := Ybaf.zeroValue0
  i0 := by kernel_rfl
  t5 := Ybaf.underlying5
  a5 := Ybaf.isAgg5
  z5 := Ybaf.sizeOf5
  v5 := Ybaf.zeroValue5
  i5 := by kernel_rfl
  t22 := Ybaf.underlying23
  a22 := Ybaf.isAgg23
  z22 := Ybaf.sizeOf23
  v22 := Ybaf.zeroValue23
  i22 := by kernel_rfl
  t23 := Ybaf.underlying22
  a23 := Ybaf.isAgg22
  z23 := Ybaf.sizeOf22
  v23 := Ybaf.zeroValue22
  i23 := by kernel_rfl
  t37 := Ybaf.underlying36
  a37 := Ybaf.isAgg36
  z37 := Ybaf.sizeOf36
  v37 := Ybaf.zeroValue36
  i37 := by kernel_rfl
  t45 := Ybaf.underlying32
  a45 := Ybaf.isAgg32
  z45 := Ybaf.sizeOf32
  v45 := Ybaf.zeroValue32
  i45 := by kernel_rfl }
open Go.RowKit in
/-- binary.BigEndian.Uint16: "Uint16 returns the uint16 representation of b[0:2].": THE NUMBER THAT THE FIRST 2 BYTES SPELL, the greatest byte first ('Lib.beNat'). Of what was there nothing has turned (the receiver, an empty struct, is laid in a new block without cells; the statement's order is drawn). (LAID: no walk: one application.) -/
theorem Ybaf.binary_BE_Uint16 (g o n c : Nat) (b0 b1 : UInt8) (w : World) (hn : 2 ≤ n) (c0 : w.cell? ⟨g, o, none⟩ = some (.int .u8 b0.toNat)) (c1 : w.cell? ⟨g, o + 1, none⟩ = some (.int .u8 b1.toNat)) :
    Calls Ybaf.prog 8 #[.agg #[], .slice (some ⟨g, o, none⟩) n c] w fun e w' => e = .returned (.int .u16 (Lib.beNat [b0, b1])) ∧ Below w.heap.size w w' := Any.binary_BE_Uint16 Ybaf.laysBin36 g o n c b0 b1 w hn c0 c1
end Go.Proofs
