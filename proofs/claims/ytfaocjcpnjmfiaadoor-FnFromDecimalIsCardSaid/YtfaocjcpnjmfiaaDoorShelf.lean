/-
  DERIVED: THE SHELF's CONTRACTS AT THIS DUMP, IN PLAIN WORDS (tools/lay-plain.mjs out of 'TrydShelf.lean', which tools/lay-shelf.mjs wrote): THE SAME DECLARATIONS UNDER THE SAME NAMES: 'import', 'namespace', 'open', 'def', 'theorem' AND NOTHING ELSE: no command of the shelf's: FOR A HAND-IN. Each laying: the table of numbers ('.._ren') and one theorem, a field a fact of the dump's own or the kernel's comparison; each contract: ONE APPLICATION.
-/
import Derived.Shelf.Strconv.Itoa0
import Derived.Shelf.Strconv.Itoa1
import Derived.Shelf.LaysM
import Derived.Shelf.Strconv.Itoa2
import Derived.Ground.MpProg
import Derived.Shelf.Pu.ParseUintPublic10
import Derived.Shelf.Bits.Mul64
import Derived.Test.YtfaocjcpnjmfiaaDoorProg
namespace Go.Proofs.YtfaocjcpnjmfiaaDoor
open Go.Shelf
def Tryd.lays129_ren : Go.Shelf.Ren := ⟨fun | 129 => 68 | n => n, fun | 53 => 22 | 3 => 3 | 4 => 4 | 46 => 52 | 5 => 5 | 9 => 9 | n => n, fun | n => n⟩
theorem Tryd.lays129 : Go.Proofs.Lays.n129 Tryd.prog Tryd.lays129_ren := {
  mixed := by kernel_rfl
  f129 := Tryd.func68.trans (congrArg some (by kernel_rfl))
  t3 := Tryd.underlying3
  a3 := Tryd.isAgg3
  z3 := Tryd.sizeOf3
  v3 := Tryd.zeroValue3
  t4 := Tryd.underlying4
  a4 := Tryd.isAgg4
  z4 := Tryd.sizeOf4
  v4 := Tryd.zeroValue4
  t5 := Tryd.underlying5
  a5 := Tryd.isAgg5
  z5 := Tryd.sizeOf5
  v5 := Tryd.zeroValue5
  t9 := Tryd.underlying9
  a9 := Tryd.isAgg9
  z9 := Tryd.sizeOf9
  v9 := Tryd.zeroValue9
  t46 := Tryd.underlying52
  a46 := Tryd.isAgg52
  z46 := Tryd.sizeOf52
  v46 := Tryd.zeroValue52
  t53 := Tryd.underlying22
  a53 := Tryd.isAgg22
  z53 := Tryd.sizeOf22
  v53 := Tryd.zeroValue22 }
/-- bits.Len64: "Len64 returns the minimum number of bits required to represent x; the result is 0 for x == 0.": IT RETURNS 'Lib.bitLen x'; the world is as it was. ('h0', 'h1': x is a uint64.) (LAID: no walk: one application.) -/
theorem Tryd.bits_Len64 (x : Int) (w : World) (h0 : 0 ≤ x) (h1 : x ≤ 18446744073709551615) :
    Calls Tryd.prog 68 #[.int .u64 x] w fun e w' => e = .returned (.int .i64 (Lib.bitLen x.toNat)) ∧ w' = w := Any.bits_Len64 Tryd.lays129 x w h0 h1
def Tryd.lays317_ren : Go.Shelf.Ren := ⟨fun | 317 => 67 | n => n, fun | 3 => 3 | 46 => 52 | n => n, fun | n => n⟩
theorem Tryd.lays317 : Go.Proofs.Lays.n317 Tryd.prog Tryd.lays317_ren := {
  mixed := by kernel_rfl
  f317 := Tryd.func67.trans (congrArg some (by kernel_rfl))
  t3 := Tryd.underlying3
  a3 := Tryd.isAgg3
  z3 := Tryd.sizeOf3
  v3 := Tryd.zeroValue3
  t46 := Tryd.underlying52
  a46 := Tryd.isAgg52
  z46 := Tryd.sizeOf52
  v46 := Tryd.zeroValue52 }
open Go.Lib in
/-- internal/strconv.log10Pow2: "log10Pow2(x) returns ⌊log₁₀ 2**x⌋ = ⌊x * log₁₀ 2⌋.": '(x * 78913) >> 18', at an x up to 64 (a length in bits). The world is as it was. (LAID: no walk: one application.) -/
theorem Tryd.internal_strconv_log10Pow2 (x : Nat) (h : x ≤ 64) (w : World) :
    Calls Tryd.prog 67 #[.int .i64 x] w fun e w' => e = .returned (.int .i64 (Lib.l10 x)) ∧ w' = w := Any.internal_strconv_log10Pow2 Tryd.lays317 x h w
def Tryd.lays318_ren : Go.Shelf.Ren := ⟨fun | 318 => 69 | n => n, fun | 3 => 3 | 4 => 4 | n => n, fun | n => n⟩
theorem Tryd.lays318 : Go.Proofs.Lays.n318 Tryd.prog Tryd.lays318_ren := {
  mixed := by kernel_rfl
  f318 := Tryd.func69.trans (congrArg some (by kernel_rfl))
  t3 := Tryd.underlying3
  a3 := Tryd.isAgg3
  z3 := Tryd.sizeOf3
  v3 := Tryd.zeroValue3
  t4 := Tryd.underlying4
  a4 := Tryd.isAgg4
  z4 := Tryd.sizeOf4
  v4 := Tryd.zeroValue4 }
open Go.Lib in
/-- internal/strconv.bool2: "bool2 converts b to an integer: 1 for true, 0 for false." The world is as it was. (LAID: no walk: one application.) -/
theorem Tryd.internal_strconv_bool2_int (b : Bool) (w : World) :
    Calls Tryd.prog 69 #[.bool b] w fun e w' => e = .returned (.int .i64 (if b then 1 else 0)) ∧ w' = w := Any.internal_strconv_bool2_int Tryd.lays318 b w
def Tryd.lays283_ren : Go.Shelf.Ren := ⟨fun | 283 => 63 | n => n, fun | 3 => 3 | 9 => 9 | 4 => 4 | n => n, fun | n => n⟩
theorem Tryd.lays283 : Go.Proofs.Lays.n283 Tryd.prog Tryd.lays283_ren := {
  mixed := by kernel_rfl
  f283 := Tryd.func63.trans (congrArg some (by kernel_rfl))
  t3 := Tryd.underlying3
  a3 := Tryd.isAgg3
  z3 := Tryd.sizeOf3
  v3 := Tryd.zeroValue3
  t4 := Tryd.underlying4
  a4 := Tryd.isAgg4
  z4 := Tryd.sizeOf4
  v4 := Tryd.zeroValue4
  t9 := Tryd.underlying9
  a9 := Tryd.isAgg9
  z9 := Tryd.sizeOf9
  v9 := Tryd.zeroValue9 }
open Go.Lib in
/-- internal/strconv.small: "small returns the string for an i with 0 <= i < nSmalls.": i's decimal numeral. The world is as it was. (LAID: no walk: one application.) -/
theorem Tryd.internal_strconv_small (i : Nat) (h : i < 100) (w : World) :
    Calls Tryd.prog 63 #[.int .i64 i] w fun e w' => e = .returned (.string ⟨(Lib.decDigits i).toArray⟩) ∧ w' = w := Any.internal_strconv_small Tryd.lays283 i h w
def Tryd.laysM284_ren : Go.Shelf.Ren := ⟨fun | 284 => 64 | 129 => 68 | 317 => 67 | 318 => 69 | n => n, fun | 53 => 22 | 3 => 3 | 212 => 89 | 0 => 0 | 4 => 4 | 46 => 52 | 5 => 5 | 9 => 9 | n => n, fun | 17 => 10 | n => n⟩
theorem Tryd.laysM284 : Go.Proofs.LaysM.n284 Tryd.prog Tryd.laysM284_ren := {
  mixed := by kernel_rfl
  f129 := Tryd.func68.trans (congrArg some (by kernel_rfl))
  f284 := Tryd.func64.trans (congrArg some (by kernel_rfl))
  f317 := Tryd.func67.trans (congrArg some (by kernel_rfl))
  f318 := Tryd.func69.trans (congrArg some (by kernel_rfl))
  t0 := Tryd.underlying0
  a0 := Tryd.isAgg0
  z0 := Tryd.sizeOf0
  v0 := Tryd.zeroValue0
  t3 := Tryd.underlying3
  a3 := Tryd.isAgg3
  z3 := Tryd.sizeOf3
  v3 := Tryd.zeroValue3
  t4 := Tryd.underlying4
  a4 := Tryd.isAgg4
  z4 := Tryd.sizeOf4
  v4 := Tryd.zeroValue4
  t5 := Tryd.underlying5
  a5 := Tryd.isAgg5
  z5 := Tryd.sizeOf5
  v5 := Tryd.zeroValue5
  t9 := Tryd.underlying9
  a9 := Tryd.isAgg9
  z9 := Tryd.sizeOf9
  v9 := Tryd.zeroValue9
  t46 := Tryd.underlying52
  a46 := Tryd.isAgg52
  z46 := Tryd.sizeOf52
  v46 := Tryd.zeroValue52
  t53 := Tryd.underlying22
  a53 := Tryd.isAgg22
  z53 := Tryd.sizeOf22
  v53 := Tryd.zeroValue22
  t212 := Tryd.underlying89
  a212 := Tryd.isAgg89
  z212 := Tryd.sizeOf89
  v212 := Tryd.zeroValue89
  g17 := by kernel_rfl
  i0 := by kernel_rfl
  i3 := by kernel_rfl
  i4 := by kernel_rfl
  i5 := by kernel_rfl
  i9 := by kernel_rfl
  i46 := by kernel_rfl
  i53 := by kernel_rfl
  i212 := by kernel_rfl
  m17 := by kernel_rfl }
open Go.Lib in
/-- internal/strconv.numDigits, at a d that is not 0: THE NUMBER OF d's DECIMAL DIGITS. The world is as it was. (LAID: no walk: one application.) -/
theorem Tryd.internal_strconv_numDigits (u : Nat) (h1 : 1 ≤ u) (h2 : u < 18446744073709551616) (w : World) (htab : Lib.TabIs Tryd.prog w "internal/strconv.uint64pow10" .u64 Lib.pow10Tab) :
    Calls Tryd.prog 64 #[.int .u64 u] w fun e w' => e = .returned (.int .i64 (Lib.nDigits u)) ∧ w' = w := Any.internal_strconv_numDigits Tryd.laysM284 u h1 h2 w htab
def Tryd.lays285_ren : Go.Shelf.Ren := ⟨fun | 285 => 65 | n => n, fun | 37 => 45 | 53 => 22 | 3 => 3 | 4 => 4 | 51 => 90 | 9 => 9 | 5 => 5 | 0 => 0 | n => n, fun | n => n⟩
theorem Tryd.lays285 : Go.Proofs.Lays.n285 Tryd.prog Tryd.lays285_ren := {
  mixed := by kernel_rfl
  f285 := Tryd.func65.trans (congrArg some (by kernel_rfl))
  t0 := Tryd.underlying0
  a0 := Tryd.isAgg0
  z0 := Tryd.sizeOf0
  v0 := Tryd.zeroValue0
  t3 := Tryd.underlying3
  a3 := Tryd.isAgg3
  z3 := Tryd.sizeOf3
  v3 := Tryd.zeroValue3
  t4 := Tryd.underlying4
  a4 := Tryd.isAgg4
  z4 := Tryd.sizeOf4
  v4 := Tryd.zeroValue4
  t5 := Tryd.underlying5
  a5 := Tryd.isAgg5
  z5 := Tryd.sizeOf5
  v5 := Tryd.zeroValue5
  t9 := Tryd.underlying9
  a9 := Tryd.isAgg9
  z9 := Tryd.sizeOf9
  v9 := Tryd.zeroValue9
  t37 := Tryd.underlying45
  a37 := Tryd.isAgg45
  z37 := Tryd.sizeOf45
  v37 := Tryd.zeroValue45
  t51 := Tryd.underlying90
  a51 := Tryd.isAgg90
  z51 := Tryd.sizeOf90
  v51 := Tryd.zeroValue90
  t53 := Tryd.underlying22
  a53 := Tryd.isAgg22
  z53 := Tryd.sizeOf22
  v53 := Tryd.zeroValue22 }
open Go.RowKit Go.Sort Go.Lib in
/-- internal/strconv.formatBase10: "formatBase10 formats the decimal representation of u into a. The caller is responsible for ensuring that a is big enough to hold u. If a is too big, leading zeros will be filled in as needed.": THE ROW HOLDS u's DIGITS ('FmtInv .. 0 ..': every place t holds 'dg u (len - 1 - t)'); all else is as it was but for the count of draws. (LAID: no walk: one application.) -/
theorem Tryd.internal_strconv_formatBase10 (blk off cap : Nat) (u : Nat) (d : Array UInt8) (w : World) (hH : Holds (fun (b : UInt8) => Value.int .u8 (b.toNat : Int)) w blk off d) (hu : u < 10 ^ d.size) (hu64 : u < 18446744073709551616) (hsz : d.size < 4611686018427387904) :
    Calls Tryd.prog 65 #[.slice (some ⟨blk, off, none⟩) d.size cap, .int .u64 u] w fun e w' =>
      e = .returned (.tuple #[]) ∧ ∃ (n v' : Nat) (dk : Array UInt8), w' = (putRow (fun (b : UInt8) => Value.int .u8 (b.toNat : Int)) w blk off dk).drewN n ∧ FmtInv d.size u 0 v' dk := Any.internal_strconv_formatBase10 Tryd.lays285 blk off cap u d w hH hu hu64 hsz
def Tryd.laysPu14_ren : Go.Shelf.Ren := ⟨fun | 14 => 41 | 16 => 46 | 17 => 47 | 19 => 52 | 20 => 53 | 21 => 54 | 22 => 55 | 23 => 56 | 24 => 57 | 25 => 58 | 27 => 60 | 26 => 59 | 28 => 61 | 29 => 62 | 30 => 63 | 31 => 64 | 32 => 65 | 33 => 66 | 35 => 68 | 34 => 67 | 36 => 69 | 37 => 70 | 38 => 71 | 39 => 72 | 40 => 73 | n => n, fun | 9 => 9 | 3 => 3 | 22 => 22 | 24 => 36 | 25 => 59 | 4 => 4 | 34 => 68 | 5 => 5 | 36 => 52 | 37 => 45 | 0 => 0 | 39 => 70 | 21 => 21 | 44 => 75 | 47 => 77 | 50 => 80 | 48 => 78 | 2 => 2 | 52 => 82 | 55 => 85 | 59 => 89 | 60 => 90 | 20 => 20 | 61 => 91 | 65 => 95 | 66 => 96 | 67 => 99 | n => n, fun | 0 => 8 | 1 => 9 | 2 => 10 | 3 => 11 | 4 => 12 | n => n⟩
theorem Tryd.laysPu14 : Go.Proofs.LaysPu.n14 Tryd.prog Tryd.laysPu14_ren := {
  mixed := by kernel_rfl
  f14 := Tryd.func41.trans (congrArg some (by kernel_rfl))
  f16 := Tryd.func46.trans (congrArg some (by kernel_rfl))
  f17 := Tryd.func47.trans (congrArg some (by kernel_rfl))
  f19 := Tryd.func52.trans (congrArg some (by kernel_rfl))
  f20 := Tryd.func53.trans (congrArg some (by kernel_rfl))
  f21 := Tryd.func54.trans (congrArg some (by kernel_rfl))
  f22 := Tryd.func55.trans (congrArg some (by kernel_rfl))
  f23 := Tryd.func56.trans (congrArg some (by kernel_rfl))
  f24 := Tryd.func57.trans (congrArg some (by kernel_rfl))
  f25 := Tryd.func58.trans (congrArg some (by kernel_rfl))
  f26 := Tryd.func59.trans (congrArg some (by kernel_rfl))
  f27 := Tryd.func60.trans (congrArg some (by kernel_rfl))
  f28 := Tryd.func61.trans (congrArg some (by kernel_rfl))
  f29 := Tryd.func62.trans (congrArg some (by kernel_rfl))
  f30 := Tryd.func63.trans (congrArg some (by kernel_rfl))
  f31 := Tryd.func64.trans (congrArg some (by kernel_rfl))
  f32 := Tryd.func65.trans (congrArg some (by kernel_rfl))
  f33 := Tryd.func66.trans (congrArg some (by kernel_rfl))
  f34 := Tryd.func67.trans (congrArg some (by kernel_rfl))
  f35 := Tryd.func68.trans (congrArg some (by kernel_rfl))
  f36 := Tryd.func69.trans (congrArg some (by kernel_rfl))
  f37 := Tryd.func70.trans (congrArg some (by kernel_rfl))
  f38 := Tryd.func71.trans (congrArg some (by kernel_rfl))
  f39 := Tryd.func72.trans (congrArg some (by kernel_rfl))
  f40 := Tryd.func73.trans (congrArg some (by kernel_rfl))
  t0 := Tryd.underlying0
  a0 := Tryd.isAgg0
  z0 := Tryd.sizeOf0
  v0 := Tryd.zeroValue0
  i0 := by kernel_rfl
  t2 := Tryd.underlying2
  a2 := Tryd.isAgg2
  z2 := Tryd.sizeOf2
  v2 := Tryd.zeroValue2
  i2 := by kernel_rfl
  t3 := Tryd.underlying3
  a3 := Tryd.isAgg3
  z3 := Tryd.sizeOf3
  v3 := Tryd.zeroValue3
  i3 := by kernel_rfl
  t4 := Tryd.underlying4
  a4 := Tryd.isAgg4
  z4 := Tryd.sizeOf4
  v4 := Tryd.zeroValue4
  i4 := by kernel_rfl
  t5 := Tryd.underlying5
  a5 := Tryd.isAgg5
  z5 := Tryd.sizeOf5
  v5 := Tryd.zeroValue5
  i5 := by kernel_rfl
  t9 := Tryd.underlying9
  a9 := Tryd.isAgg9
  z9 := Tryd.sizeOf9
  v9 := Tryd.zeroValue9
  i9 := by kernel_rfl
  t20 := Tryd.underlying20
  a20 := Tryd.isAgg20
  z20 := Tryd.sizeOf20
  v20 := Tryd.zeroValue20
  i20 := by kernel_rfl
  t21 := Tryd.underlying21
  a21 := Tryd.isAgg21
  z21 := Tryd.sizeOf21
  v21 := Tryd.zeroValue21
  i21 := by kernel_rfl
  t22 := Tryd.underlying22
  a22 := Tryd.isAgg22
  z22 := Tryd.sizeOf22
  v22 := Tryd.zeroValue22
  i22 := by kernel_rfl
  t24 := Tryd.underlying36
  a24 := Tryd.isAgg36
  z24 := Tryd.sizeOf36
  v24 := Tryd.zeroValue36
  i24 := by kernel_rfl
  t25 := Tryd.underlying59
  a25 := Tryd.isAgg59
  z25 := Tryd.sizeOf59
  v25 := Tryd.zeroValue59
  i25 := by kernel_rfl
  t34 := Tryd.underlying68
  a34 := Tryd.isAgg68
  z34 := Tryd.sizeOf68
  v34 := Tryd.zeroValue68
  i34 := by kernel_rfl
  c34 := by kernel_rfl
  t36 := Tryd.underlying52
  a36 := Tryd.isAgg52
  z36 := Tryd.sizeOf52
  v36 := Tryd.zeroValue52
  i36 := by kernel_rfl
  t37 := Tryd.underlying45
  a37 := Tryd.isAgg45
  z37 := Tryd.sizeOf45
  v37 := Tryd.zeroValue45
  i37 := by kernel_rfl
  t39 := Tryd.underlying70
  a39 := Tryd.isAgg70
  z39 := Tryd.sizeOf70
  v39 := Tryd.zeroValue70
  i39 := by kernel_rfl
  t44 := Tryd.underlying75
  a44 := Tryd.isAgg75
  z44 := Tryd.sizeOf75
  v44 := Tryd.zeroValue75
  i44 := by kernel_rfl
  t47 := Tryd.underlying77
  a47 := Tryd.isAgg77
  z47 := Tryd.sizeOf77
  v47 := Tryd.zeroValue77
  i47 := by kernel_rfl
  t48 := Tryd.underlying78
  a48 := Tryd.isAgg78
  z48 := Tryd.sizeOf78
  v48 := Tryd.zeroValue78
  i48 := by kernel_rfl
  t50 := Tryd.underlying80
  a50 := Tryd.isAgg80
  z50 := Tryd.sizeOf80
  v50 := Tryd.zeroValue80
  i50 := by kernel_rfl
  t52 := Tryd.underlying82
  a52 := Tryd.isAgg82
  z52 := Tryd.sizeOf82
  v52 := Tryd.zeroValue82
  i52 := by kernel_rfl
  t55 := Tryd.underlying85
  a55 := Tryd.isAgg85
  z55 := Tryd.sizeOf85
  v55 := Tryd.zeroValue85
  i55 := by kernel_rfl
  t59 := Tryd.underlying89
  a59 := Tryd.isAgg89
  z59 := Tryd.sizeOf89
  v59 := Tryd.zeroValue89
  i59 := by kernel_rfl
  t60 := Tryd.underlying90
  a60 := Tryd.isAgg90
  z60 := Tryd.sizeOf90
  v60 := Tryd.zeroValue90
  i60 := by kernel_rfl
  t61 := Tryd.underlying91
  a61 := Tryd.isAgg91
  z61 := Tryd.sizeOf91
  t65 := Tryd.underlying95
  a65 := Tryd.isAgg95
  z65 := Tryd.sizeOf95
  v65 := Tryd.zeroValue95
  i65 := by kernel_rfl
  t66 := Tryd.underlying96
  a66 := Tryd.isAgg96
  z66 := Tryd.sizeOf96
  v66 := Tryd.zeroValue96
  i66 := by kernel_rfl
  t67 := Tryd.underlying99
  a67 := Tryd.isAgg99
  z67 := Tryd.sizeOf99
  v67 := Tryd.zeroValue99
  i67 := by kernel_rfl
  g0 := by kernel_rfl
  m0 := by kernel_rfl
  g1 := by kernel_rfl
  m1 := by kernel_rfl
  g2 := by kernel_rfl
  m2 := by kernel_rfl
  g3 := by kernel_rfl
  m3 := by kernel_rfl
  g4 := by kernel_rfl
  m4 := by kernel_rfl }
open Go.RowKit in
/-- strconv.ParseUint(s, 10, 0), AT EVERY STRING THAT SPELLS A uint64 ('Lib.parseUintB 64 s.data.toList = .ok u'): u, AND NO ERROR. (LAID: no walk: one application.) -/
theorem Tryd.strconv_ParseUint_10_at0_ok (s : ByteArray) (hmax : s.size ≤ 9223372036854775806) (u : Nat) (h : Lib.parseUintB 64 s.data.toList = .ok u) (w : World) :
    Calls Tryd.prog 41 #[.string s, .int .i64 10, .int .i64 0] w fun e w' => e = .returned (.tuple #[.int .u64 u, .nilIface]) ∧ (w' = w ∨ w' = Lib.bytesWorld w 5 s) := Any.strconv_ParseUint_10_at0_ok Tryd.laysPu14 s hmax u h w
open Go.RowKit in
/-- strconv.ParseUint(s, 10, 0), AT EVERY STRING THAT IS NO ROW OF DECIMAL DIGITS (a sign is a fault): 0, AND AN ERROR THAT IS NOT nil: a *NumError in a new block N: {Func: "ParseUint", Num: s's bytes, Err: what the variable ErrSyntax holds}. Of what was there nothing has turned. (LAID: no walk: one application.) -/
theorem Tryd.strconv_ParseUint_10_at0_syntax (s : ByteArray) (hlim : s.size ≤ 281474976710656) (h : Lib.parseUintB 64 s.data.toList = .«syntax») (ev : Value) (w : World) (hv : w.cell? ⟨8, 0, none⟩ = some ev) (hev : ev = .nilIface ∨ ∃ te pe, ev = .iface te pe) :
    Calls Tryd.prog 41 #[.string s, .int .i64 10, .int .i64 0] w fun e w' => ∃ N, e = .returned (.tuple #[.int .u64 0, .iface 70 (.pointer (some ⟨N, 0, none⟩))]) ∧ w.heap.size ≤ N ∧ w'.heap[N]? = some (.cells #[.string ⟨#[80, 97, 114, 115, 101, 85, 105, 110, 116]⟩, .string s, ev] 75 (0, 0)) ∧ Below w.heap.size w w' := Any.strconv_ParseUint_10_at0_syntax Tryd.laysPu14 s hlim h ev w hv hev
open Go.RowKit in
/-- strconv.ParseUint(s, 10, 0), AT EVERY NUMERAL THAT NO uint64 HOLDS: THE GREATEST uint64, AND AN ERROR THAT IS NOT nil: a *NumError in a new block N: {Func: "ParseUint", Num: s's bytes, Err: what the variable ErrRange holds}. Of what was there nothing has turned. (LAID: no walk: one application.) -/
theorem Tryd.strconv_ParseUint_10_at0_range (s : ByteArray) (hlim : s.size ≤ 281474976710656) (h : Lib.parseUintB 64 s.data.toList = .range) (ev : Value) (w : World) (hv : w.cell? ⟨9, 0, none⟩ = some ev) (hev : ev = .nilIface ∨ ∃ te pe, ev = .iface te pe) :
    Calls Tryd.prog 41 #[.string s, .int .i64 10, .int .i64 0] w fun e w' => ∃ N, e = .returned (.tuple #[.int .u64 18446744073709551615, .iface 70 (.pointer (some ⟨N, 0, none⟩))]) ∧ w.heap.size ≤ N ∧ w'.heap[N]? = some (.cells #[.string ⟨#[80, 97, 114, 115, 101, 85, 105, 110, 116]⟩, .string s, ev] 75 (0, 0)) ∧ Below w.heap.size w w' := Any.strconv_ParseUint_10_at0_range Tryd.laysPu14 s hlim h ev w hv hev
open Go.RowKit in
/-- strconv.ParseUint(s, 10, 64), AT EVERY STRING THAT SPELLS A uint64 ('Lib.parseUintB 64 s.data.toList = .ok u'): u, AND NO ERROR. (LAID: no walk: one application.) -/
theorem Tryd.strconv_ParseUint_10_at64_ok (s : ByteArray) (hmax : s.size ≤ 9223372036854775806) (u : Nat) (h : Lib.parseUintB 64 s.data.toList = .ok u) (w : World) :
    Calls Tryd.prog 41 #[.string s, .int .i64 10, .int .i64 64] w fun e w' => e = .returned (.tuple #[.int .u64 u, .nilIface]) ∧ (w' = w ∨ w' = Lib.bytesWorld w 5 s) := Any.strconv_ParseUint_10_at64_ok Tryd.laysPu14 s hmax u h w
open Go.RowKit in
/-- strconv.ParseUint(s, 10, 64), AT EVERY STRING THAT IS NO ROW OF DECIMAL DIGITS (a sign is a fault): 0, AND AN ERROR THAT IS NOT nil: a *NumError in a new block N: {Func: "ParseUint", Num: s's bytes, Err: what the variable ErrSyntax holds}. Of what was there nothing has turned. (LAID: no walk: one application.) -/
theorem Tryd.strconv_ParseUint_10_at64_syntax (s : ByteArray) (hlim : s.size ≤ 281474976710656) (h : Lib.parseUintB 64 s.data.toList = .«syntax») (ev : Value) (w : World) (hv : w.cell? ⟨8, 0, none⟩ = some ev) (hev : ev = .nilIface ∨ ∃ te pe, ev = .iface te pe) :
    Calls Tryd.prog 41 #[.string s, .int .i64 10, .int .i64 64] w fun e w' => ∃ N, e = .returned (.tuple #[.int .u64 0, .iface 70 (.pointer (some ⟨N, 0, none⟩))]) ∧ w.heap.size ≤ N ∧ w'.heap[N]? = some (.cells #[.string ⟨#[80, 97, 114, 115, 101, 85, 105, 110, 116]⟩, .string s, ev] 75 (0, 0)) ∧ Below w.heap.size w w' := Any.strconv_ParseUint_10_at64_syntax Tryd.laysPu14 s hlim h ev w hv hev
open Go.RowKit in
/-- strconv.ParseUint(s, 10, 64), AT EVERY NUMERAL THAT NO uint64 HOLDS: THE GREATEST uint64, AND AN ERROR THAT IS NOT nil: a *NumError in a new block N: {Func: "ParseUint", Num: s's bytes, Err: what the variable ErrRange holds}. Of what was there nothing has turned. (LAID: no walk: one application.) -/
theorem Tryd.strconv_ParseUint_10_at64_range (s : ByteArray) (hlim : s.size ≤ 281474976710656) (h : Lib.parseUintB 64 s.data.toList = .range) (ev : Value) (w : World) (hv : w.cell? ⟨9, 0, none⟩ = some ev) (hev : ev = .nilIface ∨ ∃ te pe, ev = .iface te pe) :
    Calls Tryd.prog 41 #[.string s, .int .i64 10, .int .i64 64] w fun e w' => ∃ N, e = .returned (.tuple #[.int .u64 18446744073709551615, .iface 70 (.pointer (some ⟨N, 0, none⟩))]) ∧ w.heap.size ≤ N ∧ w'.heap[N]? = some (.cells #[.string ⟨#[80, 97, 114, 115, 101, 85, 105, 110, 116]⟩, .string s, ev] 75 (0, 0)) ∧ Below w.heap.size w w' := Any.strconv_ParseUint_10_at64_range Tryd.laysPu14 s hlim h ev w hv hev
open Go.RowKit in
/-- strconv.ParseUint(s, 10, 32), AT EVERY STRING THAT SPELLS A uint32 ('Lib.parseUintB 32 s.data.toList = .ok u'): u, AND NO ERROR. (LAID: no walk: one application.) -/
theorem Tryd.strconv_ParseUint_10_at32_ok (s : ByteArray) (hmax : s.size ≤ 9223372036854775806) (u : Nat) (h : Lib.parseUintB 32 s.data.toList = .ok u) (w : World) :
    Calls Tryd.prog 41 #[.string s, .int .i64 10, .int .i64 32] w fun e w' => e = .returned (.tuple #[.int .u64 u, .nilIface]) ∧ (w' = w ∨ w' = Lib.bytesWorld w 5 s) := Any.strconv_ParseUint_10_at32_ok Tryd.laysPu14 s hmax u h w
open Go.RowKit in
/-- strconv.ParseUint(s, 10, 32), AT EVERY STRING THAT IS NO ROW OF DECIMAL DIGITS (a sign is a fault): 0, AND AN ERROR THAT IS NOT nil: a *NumError in a new block N: {Func: "ParseUint", Num: s's bytes, Err: what the variable ErrSyntax holds}. Of what was there nothing has turned. (LAID: no walk: one application.) -/
theorem Tryd.strconv_ParseUint_10_at32_syntax (s : ByteArray) (hlim : s.size ≤ 281474976710656) (h : Lib.parseUintB 32 s.data.toList = .«syntax») (ev : Value) (w : World) (hv : w.cell? ⟨8, 0, none⟩ = some ev) (hev : ev = .nilIface ∨ ∃ te pe, ev = .iface te pe) :
    Calls Tryd.prog 41 #[.string s, .int .i64 10, .int .i64 32] w fun e w' => ∃ N, e = .returned (.tuple #[.int .u64 0, .iface 70 (.pointer (some ⟨N, 0, none⟩))]) ∧ w.heap.size ≤ N ∧ w'.heap[N]? = some (.cells #[.string ⟨#[80, 97, 114, 115, 101, 85, 105, 110, 116]⟩, .string s, ev] 75 (0, 0)) ∧ Below w.heap.size w w' := Any.strconv_ParseUint_10_at32_syntax Tryd.laysPu14 s hlim h ev w hv hev
open Go.RowKit in
/-- strconv.ParseUint(s, 10, 32), AT EVERY NUMERAL THAT NO uint32 HOLDS: THE GREATEST uint32, AND AN ERROR THAT IS NOT nil: a *NumError in a new block N: {Func: "ParseUint", Num: s's bytes, Err: what the variable ErrRange holds}. Of what was there nothing has turned. (LAID: no walk: one application.) -/
theorem Tryd.strconv_ParseUint_10_at32_range (s : ByteArray) (hlim : s.size ≤ 281474976710656) (h : Lib.parseUintB 32 s.data.toList = .range) (ev : Value) (w : World) (hv : w.cell? ⟨9, 0, none⟩ = some ev) (hev : ev = .nilIface ∨ ∃ te pe, ev = .iface te pe) :
    Calls Tryd.prog 41 #[.string s, .int .i64 10, .int .i64 32] w fun e w' => ∃ N, e = .returned (.tuple #[.int .u64 4294967295, .iface 70 (.pointer (some ⟨N, 0, none⟩))]) ∧ w.heap.size ≤ N ∧ w'.heap[N]? = some (.cells #[.string ⟨#[80, 97, 114, 115, 101, 85, 105, 110, 116]⟩, .string s, ev] 75 (0, 0)) ∧ Below w.heap.size w w' := Any.strconv_ParseUint_10_at32_range Tryd.laysPu14 s hlim h ev w hv hev
open Go.RowKit in
/-- strconv.ParseUint(s, 10, 16), AT EVERY STRING THAT SPELLS A uint16 ('Lib.parseUintB 16 s.data.toList = .ok u'): u, AND NO ERROR. (LAID: no walk: one application.) -/
theorem Tryd.strconv_ParseUint_10_at16_ok (s : ByteArray) (hmax : s.size ≤ 9223372036854775806) (u : Nat) (h : Lib.parseUintB 16 s.data.toList = .ok u) (w : World) :
    Calls Tryd.prog 41 #[.string s, .int .i64 10, .int .i64 16] w fun e w' => e = .returned (.tuple #[.int .u64 u, .nilIface]) ∧ (w' = w ∨ w' = Lib.bytesWorld w 5 s) := Any.strconv_ParseUint_10_at16_ok Tryd.laysPu14 s hmax u h w
open Go.RowKit in
/-- strconv.ParseUint(s, 10, 16), AT EVERY STRING THAT IS NO ROW OF DECIMAL DIGITS (a sign is a fault): 0, AND AN ERROR THAT IS NOT nil: a *NumError in a new block N: {Func: "ParseUint", Num: s's bytes, Err: what the variable ErrSyntax holds}. Of what was there nothing has turned. (LAID: no walk: one application.) -/
theorem Tryd.strconv_ParseUint_10_at16_syntax (s : ByteArray) (hlim : s.size ≤ 281474976710656) (h : Lib.parseUintB 16 s.data.toList = .«syntax») (ev : Value) (w : World) (hv : w.cell? ⟨8, 0, none⟩ = some ev) (hev : ev = .nilIface ∨ ∃ te pe, ev = .iface te pe) :
    Calls Tryd.prog 41 #[.string s, .int .i64 10, .int .i64 16] w fun e w' => ∃ N, e = .returned (.tuple #[.int .u64 0, .iface 70 (.pointer (some ⟨N, 0, none⟩))]) ∧ w.heap.size ≤ N ∧ w'.heap[N]? = some (.cells #[.string ⟨#[80, 97, 114, 115, 101, 85, 105, 110, 116]⟩, .string s, ev] 75 (0, 0)) ∧ Below w.heap.size w w' := Any.strconv_ParseUint_10_at16_syntax Tryd.laysPu14 s hlim h ev w hv hev
open Go.RowKit in
/-- strconv.ParseUint(s, 10, 16), AT EVERY NUMERAL THAT NO uint16 HOLDS: THE GREATEST uint16, AND AN ERROR THAT IS NOT nil: a *NumError in a new block N: {Func: "ParseUint", Num: s's bytes, Err: what the variable ErrRange holds}. Of what was there nothing has turned. (LAID: no walk: one application.) -/
theorem Tryd.strconv_ParseUint_10_at16_range (s : ByteArray) (hlim : s.size ≤ 281474976710656) (h : Lib.parseUintB 16 s.data.toList = .range) (ev : Value) (w : World) (hv : w.cell? ⟨9, 0, none⟩ = some ev) (hev : ev = .nilIface ∨ ∃ te pe, ev = .iface te pe) :
    Calls Tryd.prog 41 #[.string s, .int .i64 10, .int .i64 16] w fun e w' => ∃ N, e = .returned (.tuple #[.int .u64 65535, .iface 70 (.pointer (some ⟨N, 0, none⟩))]) ∧ w.heap.size ≤ N ∧ w'.heap[N]? = some (.cells #[.string ⟨#[80, 97, 114, 115, 101, 85, 105, 110, 116]⟩, .string s, ev] 75 (0, 0)) ∧ Below w.heap.size w w' := Any.strconv_ParseUint_10_at16_range Tryd.laysPu14 s hlim h ev w hv hev
open Go.RowKit in
/-- strconv.ParseUint(s, 10, 8), AT EVERY STRING THAT SPELLS A uint8 ('Lib.parseUintB 8 s.data.toList = .ok u'): u, AND NO ERROR. (LAID: no walk: one application.) -/
theorem Tryd.strconv_ParseUint_10_at8_ok (s : ByteArray) (hmax : s.size ≤ 9223372036854775806) (u : Nat) (h : Lib.parseUintB 8 s.data.toList = .ok u) (w : World) :
    Calls Tryd.prog 41 #[.string s, .int .i64 10, .int .i64 8] w fun e w' => e = .returned (.tuple #[.int .u64 u, .nilIface]) ∧ (w' = w ∨ w' = Lib.bytesWorld w 5 s) := Any.strconv_ParseUint_10_at8_ok Tryd.laysPu14 s hmax u h w
open Go.RowKit in
/-- strconv.ParseUint(s, 10, 8), AT EVERY STRING THAT IS NO ROW OF DECIMAL DIGITS (a sign is a fault): 0, AND AN ERROR THAT IS NOT nil: a *NumError in a new block N: {Func: "ParseUint", Num: s's bytes, Err: what the variable ErrSyntax holds}. Of what was there nothing has turned. (LAID: no walk: one application.) -/
theorem Tryd.strconv_ParseUint_10_at8_syntax (s : ByteArray) (hlim : s.size ≤ 281474976710656) (h : Lib.parseUintB 8 s.data.toList = .«syntax») (ev : Value) (w : World) (hv : w.cell? ⟨8, 0, none⟩ = some ev) (hev : ev = .nilIface ∨ ∃ te pe, ev = .iface te pe) :
    Calls Tryd.prog 41 #[.string s, .int .i64 10, .int .i64 8] w fun e w' => ∃ N, e = .returned (.tuple #[.int .u64 0, .iface 70 (.pointer (some ⟨N, 0, none⟩))]) ∧ w.heap.size ≤ N ∧ w'.heap[N]? = some (.cells #[.string ⟨#[80, 97, 114, 115, 101, 85, 105, 110, 116]⟩, .string s, ev] 75 (0, 0)) ∧ Below w.heap.size w w' := Any.strconv_ParseUint_10_at8_syntax Tryd.laysPu14 s hlim h ev w hv hev
open Go.RowKit in
/-- strconv.ParseUint(s, 10, 8), AT EVERY NUMERAL THAT NO uint8 HOLDS: THE GREATEST uint8, AND AN ERROR THAT IS NOT nil: a *NumError in a new block N: {Func: "ParseUint", Num: s's bytes, Err: what the variable ErrRange holds}. Of what was there nothing has turned. (LAID: no walk: one application.) -/
theorem Tryd.strconv_ParseUint_10_at8_range (s : ByteArray) (hlim : s.size ≤ 281474976710656) (h : Lib.parseUintB 8 s.data.toList = .range) (ev : Value) (w : World) (hv : w.cell? ⟨9, 0, none⟩ = some ev) (hev : ev = .nilIface ∨ ∃ te pe, ev = .iface te pe) :
    Calls Tryd.prog 41 #[.string s, .int .i64 10, .int .i64 8] w fun e w' => ∃ N, e = .returned (.tuple #[.int .u64 255, .iface 70 (.pointer (some ⟨N, 0, none⟩))]) ∧ w.heap.size ≤ N ∧ w'.heap[N]? = some (.cells #[.string ⟨#[80, 97, 114, 115, 101, 85, 105, 110, 116]⟩, .string s, ev] 75 (0, 0)) ∧ Below w.heap.size w w' := Any.strconv_ParseUint_10_at8_range Tryd.laysPu14 s hlim h ev w hv hev
def Tryd.lays264_ren : Go.Shelf.Ren := ⟨fun | 264 => 49 | n => n, fun | 53 => 22 | 46 => 52 | n => n, fun | n => n⟩
theorem Tryd.lays264 : Go.Proofs.Lays.n264 Tryd.prog Tryd.lays264_ren := {
  mixed := by kernel_rfl
  f264 := Tryd.func49.trans (congrArg some (by kernel_rfl))
  t46 := Tryd.underlying52
  a46 := Tryd.isAgg52
  z46 := Tryd.sizeOf52
  v46 := Tryd.zeroValue52
  t53 := Tryd.underlying22
  a53 := Tryd.isAgg22
  z53 := Tryd.sizeOf22
  v53 := Tryd.zeroValue22 }
open Go.RowKit Go.Lib in
theorem Tryd.bits_Mul64 (x y : Nat) (hx : x < 18446744073709551616) (hy : y < 18446744073709551616) (w : World) :
    Calls Tryd.prog 49 #[.int .u64 x, .int .u64 y] w fun e w' => e = .returned (.tuple #[.int .u64 ((x * y / 18446744073709551616 : Nat) : Int), .int .u64 ((x * y % 18446744073709551616 : Nat) : Int)]) ∧ w' = w := Any.bits_Mul64 Tryd.lays264 x y hx hy w
end Go.Proofs.YtfaocjcpnjmfiaaDoor
