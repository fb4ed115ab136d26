/-
  DERIVED: THE SHELF's CONTRACTS AT THIS DUMP, IN PLAIN WORDS (tools/lay-plain.mjs out of 'TryzShelf.lean', which tools/lay-shelf.mjs wrote): THE SAME DECLARATIONS UNDER THE SAME NAMES: 'import', 'namespace', 'open', 'def', 'theorem' AND NOTHING ELSE: no command of the shelf's: FOR A HAND-IN. Each laying: the table of numbers ('.._ren') and one theorem, a field a fact of the dump's own or the kernel's comparison; each contract: ONE APPLICATION.
-/
import Derived.Shelf.Small.Bits
import Derived.Shelf.LaysM
import Derived.Shelf.LaysC
import Derived.Shelf.Strconv.ParseIntPublic10
import Derived.Shelf.Bits.Mul64
import Derived.Shelf.Slices.Clone
import Derived.Test.YtbnmgopobmiadaaGreatDoorProg

set_option linter.unusedSimpArgs false
set_option linter.unusedVariables false

namespace Go.Proofs
open Go.Shelf
def Tryz.lays134_ren : Go.Shelf.Ren := ⟨fun | 134 => 230 | 129 => 214 | n => n, fun | 53 => 230 | 3 => 3 | 4 => 4 | 46 => 135 | 5 => 5 | 9 => 9 | n => n, fun | n => n⟩
theorem Tryz.lays134 : Go.Proofs.Lays.n134 Tryz.prog Tryz.lays134_ren := {
  mixed := by kernel_rfl
  f129 := Tryz.func214.trans (congrArg some (by kernel_rfl))
  f134 := Tryz.func230.trans (congrArg some (by kernel_rfl))
  t3 := Tryz.underlying3
  a3 := Tryz.isAgg3
  z3 := Tryz.sizeOf3
  v3 := Tryz.zeroValue3
  t4 := Tryz.underlying4
  a4 := Tryz.isAgg4
  z4 := Tryz.sizeOf4
  v4 := Tryz.zeroValue4
  t5 := Tryz.underlying5
  a5 := Tryz.isAgg5
  z5 := Tryz.sizeOf5
  v5 := Tryz.zeroValue5
  t9 := Tryz.underlying9
  a9 := Tryz.isAgg9
  z9 := Tryz.sizeOf9
  v9 := Tryz.zeroValue9
  t46 := Tryz.underlying135
  a46 := Tryz.isAgg135
  z46 := Tryz.sizeOf135
  v46 := Tryz.zeroValue135
  t53 := Tryz.underlying230
  a53 := Tryz.isAgg230
  z53 := Tryz.sizeOf230
  v53 := Tryz.zeroValue230 }
/-- bits.LeadingZeros64: "LeadingZeros64 returns the number of leading zero bits in x; the result is 64 for x == 0.": IT RETURNS '64 - Lib.bitLen x'; the world is as it was. ITS CALLEE bits.Len64 IS MET BY ITS OWN CONTRACT OFF THE SHELF (lay that first): entered in place it sends the kernel out of memory. (LAID: no walk: one application.) -/
theorem Tryz.bits_LeadingZeros64 (x : Int) (w : World) (h0 : 0 ≤ x) (h1 : x ≤ 18446744073709551615) :
    Calls Tryz.prog 230 #[.int .u64 x] w fun e w' => e = .returned (.int .i64 (64 - (Lib.bitLen x.toNat : Int))) ∧ w' = w := Any.bits_LeadingZeros64 Tryz.lays134 x w h0 h1
def Tryz.lays130_ren : Go.Shelf.Ren := ⟨fun | 130 => 149 | 125 => 188 | 128 => 213 | 129 => 214 | n => n, fun | 46 => 135 | 3 => 3 | 51 => 229 | 53 => 230 | 4 => 4 | 5 => 5 | 9 => 9 | n => n, fun | n => n⟩
theorem Tryz.lays130 : Go.Proofs.Lays.n130 Tryz.prog Tryz.lays130_ren := {
  mixed := by kernel_rfl
  f125 := Tryz.func188.trans (congrArg some (by kernel_rfl))
  f128 := Tryz.func213.trans (congrArg some (by kernel_rfl))
  f129 := Tryz.func214.trans (congrArg some (by kernel_rfl))
  f130 := Tryz.func149.trans (congrArg some (by kernel_rfl))
  t3 := Tryz.underlying3
  a3 := Tryz.isAgg3
  z3 := Tryz.sizeOf3
  v3 := Tryz.zeroValue3
  t4 := Tryz.underlying4
  a4 := Tryz.isAgg4
  z4 := Tryz.sizeOf4
  v4 := Tryz.zeroValue4
  t5 := Tryz.underlying5
  a5 := Tryz.isAgg5
  z5 := Tryz.sizeOf5
  v5 := Tryz.zeroValue5
  t9 := Tryz.underlying9
  a9 := Tryz.isAgg9
  z9 := Tryz.sizeOf9
  v9 := Tryz.zeroValue9
  t46 := Tryz.underlying135
  a46 := Tryz.isAgg135
  z46 := Tryz.sizeOf135
  v46 := Tryz.zeroValue135
  t51 := Tryz.underlying229
  a51 := Tryz.isAgg229
  z51 := Tryz.sizeOf229
  v51 := Tryz.zeroValue229
  t53 := Tryz.underlying230
  a53 := Tryz.isAgg230
  z53 := Tryz.sizeOf230
  v53 := Tryz.zeroValue230 }
/-- bits.LeadingZeros: "LeadingZeros returns the number of leading zero bits in x; the result is [UintSize] for x == 0.": IT RETURNS '64 - Lib.bitLen x'; the world is as it was. ITS CALLEE bits.Len IS MET BY ITS OWN CONTRACT OFF THE SHELF (lay that first): entered in place it sends the kernel out of memory. (LAID: no walk: one application.) -/
theorem Tryz.bits_LeadingZeros (x : Int) (w : World) (h0 : 0 ≤ x) (h1 : x ≤ 18446744073709551615) :
    Calls Tryz.prog 149 #[.int .u64 x] w fun e w' => e = .returned (.int .i64 (64 - (Lib.bitLen x.toNat : Int))) ∧ w' = w := Any.bits_LeadingZeros Tryz.lays130 x w h0 h1
def Tryz.laysC174_ren : Go.Shelf.Ren := ⟨fun | 174 => 80 | 247 => 139 | 245 => 140 | 287 => 177 | 279 => 178 | 280 => 179 | 281 => 180 | 282 => 181 | 321 => 204 | 322 => 205 | 316 => 206 | 171 => 112 | 205 => 207 | 243 => 168 | 246 => 197 | 283 => 219 | 284 => 220 | 285 => 221 | 286 => 222 | 129 => 214 | 317 => 227 | 318 => 228 | 319 => 229 | 320 => 143 | 337 => 184 | 338 => 185 | n => n, fun | 9 => 9 | 3 => 3 | 2 => 2 | 75 => 62 | 85 => 203 | 4 => 4 | 167 => 365 | 5 => 5 | 53 => 230 | 175 => 366 | 46 => 135 | 168 => 368 | 37 => 202 | 0 => 0 | 210 => 388 | 21 => 21 | 127 => 402 | 145 => 405 | 143 => 403 | 171 => 398 | 173 => 400 | 212 => 409 | 51 => 229 | 20 => 20 | 213 => 410 | 232 => 390 | 233 => 391 | 80 => 150 | n => n, fun | 15 => 8 | 16 => 9 | 17 => 12 | 18 => 10 | 19 => 11 | n => n⟩
theorem Tryz.laysC174 : Go.Proofs.LaysC.n174 Tryz.prog Tryz.laysC174_ren := {
  mixed := by kernel_rfl
  f129 := Tryz.func214.trans (congrArg some (by kernel_rfl))
  f171 := Tryz.func112.trans (congrArg some (by kernel_rfl))
  f174 := Tryz.func80.trans (congrArg some (by kernel_rfl))
  f205 := Tryz.func207.trans (congrArg some (by kernel_rfl))
  f243 := Tryz.func168.trans (congrArg some (by kernel_rfl))
  f245 := Tryz.func140.trans (congrArg some (by kernel_rfl))
  f246 := Tryz.func197.trans (congrArg some (by kernel_rfl))
  f247 := Tryz.func139.trans (congrArg some (by kernel_rfl))
  f279 := Tryz.func178.trans (congrArg some (by kernel_rfl))
  f280 := Tryz.func179.trans (congrArg some (by kernel_rfl))
  f281 := Tryz.func180.trans (congrArg some (by kernel_rfl))
  f282 := Tryz.func181.trans (congrArg some (by kernel_rfl))
  f283 := Tryz.func219.trans (congrArg some (by kernel_rfl))
  f284 := Tryz.func220.trans (congrArg some (by kernel_rfl))
  f285 := Tryz.func221.trans (congrArg some (by kernel_rfl))
  f286 := Tryz.func222.trans (congrArg some (by kernel_rfl))
  f287 := Tryz.func177.trans (congrArg some (by kernel_rfl))
  f316 := Tryz.func206.trans (congrArg some (by kernel_rfl))
  f317 := Tryz.func227.trans (congrArg some (by kernel_rfl))
  f318 := Tryz.func228.trans (congrArg some (by kernel_rfl))
  f319 := Tryz.func229.trans (congrArg some (by kernel_rfl))
  f320 := Tryz.func143.trans (congrArg some (by kernel_rfl))
  f321 := Tryz.func204.trans (congrArg some (by kernel_rfl))
  f322 := Tryz.func205.trans (congrArg some (by kernel_rfl))
  f337 := Tryz.func184.trans (congrArg some (by kernel_rfl))
  f338 := Tryz.func185.trans (congrArg some (by kernel_rfl))
  t0 := Tryz.underlying0
  a0 := Tryz.isAgg0
  z0 := Tryz.sizeOf0
  v0 := Tryz.zeroValue0
  t2 := Tryz.underlying2
  a2 := Tryz.isAgg2
  z2 := Tryz.sizeOf2
  v2 := Tryz.zeroValue2
  t3 := Tryz.underlying3
  a3 := Tryz.isAgg3
  z3 := Tryz.sizeOf3
  v3 := Tryz.zeroValue3
  t4 := Tryz.underlying4
  a4 := Tryz.isAgg4
  z4 := Tryz.sizeOf4
  v4 := Tryz.zeroValue4
  t5 := Tryz.underlying5
  a5 := Tryz.isAgg5
  z5 := Tryz.sizeOf5
  v5 := Tryz.zeroValue5
  t9 := Tryz.underlying9
  a9 := Tryz.isAgg9
  z9 := Tryz.sizeOf9
  v9 := Tryz.zeroValue9
  t20 := Tryz.underlying20
  a20 := Tryz.isAgg20
  z20 := Tryz.sizeOf20
  v20 := Tryz.zeroValue20
  t21 := Tryz.underlying21
  a21 := Tryz.isAgg21
  z21 := Tryz.sizeOf21
  v21 := Tryz.zeroValue21
  t37 := Tryz.underlying202
  a37 := Tryz.isAgg202
  z37 := Tryz.sizeOf202
  v37 := Tryz.zeroValue202
  t46 := Tryz.underlying135
  a46 := Tryz.isAgg135
  z46 := Tryz.sizeOf135
  v46 := Tryz.zeroValue135
  t51 := Tryz.underlying229
  a51 := Tryz.isAgg229
  z51 := Tryz.sizeOf229
  v51 := Tryz.zeroValue229
  t53 := Tryz.underlying230
  a53 := Tryz.isAgg230
  z53 := Tryz.sizeOf230
  v53 := Tryz.zeroValue230
  t75 := Tryz.underlying62
  a75 := Tryz.isAgg62
  z75 := Tryz.sizeOf62
  v75 := Tryz.zeroValue62
  t85 := Tryz.underlying203
  a85 := Tryz.isAgg203
  z85 := Tryz.sizeOf203
  v85 := Tryz.zeroValue203
  t127 := Tryz.underlying402
  a127 := Tryz.isAgg402
  z127 := Tryz.sizeOf402
  v127 := Tryz.zeroValue402
  t143 := Tryz.underlying403
  a143 := Tryz.isAgg403
  z143 := Tryz.sizeOf403
  v143 := Tryz.zeroValue403
  t145 := Tryz.underlying405
  a145 := Tryz.isAgg405
  z145 := Tryz.sizeOf405
  v145 := Tryz.zeroValue405
  t167 := Tryz.underlying365
  a167 := Tryz.isAgg365
  z167 := Tryz.sizeOf365
  v167 := Tryz.zeroValue365
  t168 := Tryz.underlying368
  a168 := Tryz.isAgg368
  z168 := Tryz.sizeOf368
  v168 := Tryz.zeroValue368
  t171 := Tryz.underlying398
  a171 := Tryz.isAgg398
  z171 := Tryz.sizeOf398
  v171 := Tryz.zeroValue398
  t173 := Tryz.underlying400
  a173 := Tryz.isAgg400
  z173 := Tryz.sizeOf400
  v173 := Tryz.zeroValue400
  t175 := Tryz.underlying366
  a175 := Tryz.isAgg366
  z175 := Tryz.sizeOf366
  v175 := Tryz.zeroValue366
  t210 := Tryz.underlying388
  a210 := Tryz.isAgg388
  z210 := Tryz.sizeOf388
  v210 := Tryz.zeroValue388
  t212 := Tryz.underlying409
  a212 := Tryz.isAgg409
  z212 := Tryz.sizeOf409
  v212 := Tryz.zeroValue409
  t213 := Tryz.underlying410
  a213 := Tryz.isAgg410
  z213 := Tryz.sizeOf410
  t232 := Tryz.underlying390
  a232 := Tryz.isAgg390
  z232 := Tryz.sizeOf390
  v232 := Tryz.zeroValue390
  t233 := Tryz.underlying391
  a233 := Tryz.isAgg391
  z233 := Tryz.sizeOf391
  v233 := Tryz.zeroValue391
  g15 := by kernel_rfl
  g16 := by kernel_rfl
  g17 := by kernel_rfl
  g18 := by kernel_rfl
  g19 := by kernel_rfl
  t80 := Tryz.underlying150
  a80 := Tryz.isAgg150
  z80 := Tryz.sizeOf150
  v80 := Tryz.zeroValue150
  i0 := by kernel_rfl
  i2 := by kernel_rfl
  i3 := by kernel_rfl
  i4 := by kernel_rfl
  i5 := by kernel_rfl
  i9 := by kernel_rfl
  i20 := by kernel_rfl
  i21 := by kernel_rfl
  i37 := by kernel_rfl
  i46 := by kernel_rfl
  i51 := by kernel_rfl
  i53 := by kernel_rfl
  i75 := by kernel_rfl
  i80 := by kernel_rfl
  i85 := by kernel_rfl
  i127 := by kernel_rfl
  i143 := by kernel_rfl
  i145 := by kernel_rfl
  i167 := by kernel_rfl
  i168 := by kernel_rfl
  i171 := by kernel_rfl
  i173 := by kernel_rfl
  i175 := by kernel_rfl
  i210 := by kernel_rfl
  i212 := by kernel_rfl
  i232 := by kernel_rfl
  i233 := by kernel_rfl
  m15 := by kernel_rfl
  m16 := by kernel_rfl
  m17 := by kernel_rfl
  m18 := by kernel_rfl
  m19 := by kernel_rfl
  c0 := by kernel_rfl
  c2 := by kernel_rfl
  c3 := by kernel_rfl
  c4 := by kernel_rfl
  c5 := by kernel_rfl
  c9 := by kernel_rfl
  c20 := by kernel_rfl
  c21 := by kernel_rfl
  c37 := by kernel_rfl
  c46 := by kernel_rfl
  c51 := by kernel_rfl
  c53 := by kernel_rfl
  c75 := by kernel_rfl
  c80 := by kernel_rfl
  c85 := by kernel_rfl
  c127 := by kernel_rfl
  c143 := by kernel_rfl
  c145 := by kernel_rfl
  c167 := by kernel_rfl
  c168 := by kernel_rfl
  c171 := by kernel_rfl
  c173 := by kernel_rfl
  c175 := by kernel_rfl
  c210 := by kernel_rfl
  c212 := by kernel_rfl
  c213 := by kernel_rfl
  c232 := by kernel_rfl
  c233 := by kernel_rfl }
open Go.RowKit in
/-- strconv.ParseInt(s, 10, 64), AT EVERY STRING THAT SPELLS AN int64 ('Lib.parseIntB 64 s.data.toList = .ok v'): v, AND NO ERROR. (LAID: no walk: one application.) -/
theorem Tryz.strconv_ParseInt_10_at64_ok (s : ByteArray) (hmax : s.size ≤ 9223372036854775806) (v : Int) (h : Lib.parseIntB 64 s.data.toList = .ok v) (w : World) :
    Calls Tryz.prog 80 #[.string s, .int .i64 10, .int .i64 64] w fun e w' => e = .returned (.tuple #[.int .i64 v, .nilIface]) ∧ (w' = w ∨ ∃ t, w' = Lib.bytesWorld w 5 t) := Any.strconv_ParseInt_10_at64_ok Tryz.laysC174 s hmax v h w
def Tryz.lays212_ren : Go.Shelf.Ren := ⟨fun | 212 => 189 | 263 => 215 | 264 => 216 | n => n, fun | 46 => 135 | 51 => 229 | 146 => 392 | 53 => 230 | 148 => 394 | n => n, fun | n => n⟩
theorem Tryz.lays212 : Go.Proofs.Lays.n212 Tryz.prog Tryz.lays212_ren := {
  mixed := by kernel_rfl
  f212 := Tryz.func189.trans (congrArg some (by kernel_rfl))
  f263 := Tryz.func215.trans (congrArg some (by kernel_rfl))
  f264 := Tryz.func216.trans (congrArg some (by kernel_rfl))
  t46 := Tryz.underlying135
  a46 := Tryz.isAgg135
  z46 := Tryz.sizeOf135
  v46 := Tryz.zeroValue135
  t51 := Tryz.underlying229
  a51 := Tryz.isAgg229
  z51 := Tryz.sizeOf229
  v51 := Tryz.zeroValue229
  t53 := Tryz.underlying230
  a53 := Tryz.isAgg230
  z53 := Tryz.sizeOf230
  v53 := Tryz.zeroValue230
  t146 := Tryz.underlying392
  a146 := Tryz.isAgg392
  z146 := Tryz.sizeOf392
  v146 := Tryz.zeroValue392
  t148 := Tryz.underlying394
  a148 := Tryz.isAgg394
  z148 := Tryz.sizeOf394
  v148 := Tryz.zeroValue394 }
open Go.RowKit Go.Lib in
/-- math/bits.Mul: "Mul returns the full-width product of x and y": on a machine of 64 bits: Mul64's. (LAID: no walk: one application.) -/
theorem Tryz.bits_Mul (x y : Nat) (hx : x < 18446744073709551616) (hy : y < 18446744073709551616) (w : World) :
    Calls Tryz.prog 189 #[.int .u64 x, .int .u64 y] w fun e w' => e = .returned (.tuple #[.int .u64 ((x * y / 18446744073709551616 : Nat) : Int), .int .u64 ((x * y % 18446744073709551616 : Nat) : Int)]) ∧ w' = w := Any.bits_Mul Tryz.lays212 x y hx hy w
def Tryz.laysNm216_ren : Go.Shelf.Ren := ⟨fun | 16 => 162 | n => n, fun | 24 => 28 | 9 => 9 | 4 => 4 | n => n, fun | n => n⟩
theorem Tryz.laysNm216 : Go.Proofs.Lays2.n16 Tryz.prog Tryz.laysNm216_ren := {
  mixed := by kernel_rfl
  f16 := Tryz.func162.trans (congrArg some (by kernel_rfl))
  t4 := Tryz.underlying4
  a4 := Tryz.isAgg4
  z4 := Tryz.sizeOf4
  v4 := Tryz.zeroValue4
  t9 := Tryz.underlying9
  a9 := Tryz.isAgg9
  z9 := Tryz.sizeOf9
  v9 := Tryz.zeroValue9
  t24 := Tryz.underlying28
  a24 := Tryz.isAgg28
  z24 := Tryz.sizeOf28
  v24 := Tryz.zeroValue28
  i9 := by kernel_rfl }
open Go.RowKit Go.Lib in
/-- slices.Clone at []string: "Clone returns a copy of the slice. The elements are copied using assignment, so this is a shallow clone. The result may have additional unused capacity. The result preserves the nilness of s.": OF A SLICE THAT IS NOT nil IT RETURNS A SLICE THAT IS NOT nil, OF THE SAME ELEMENTS, IN MEMORY OF THE CALL's OWN: in the how-to's words (6f): 'w'.ownsRow B e 1 v' n cells': v' begins at the head of a row among the blocks from B on (B: the heap's size at the call), not frozen, whose first cells are the elements · 'Below B w w'': below B all is as it was. The capacity is whatever the run-time gives. 'zs': what the cells behind the slice's address hold; 'zs.take n': its elements. (LAID: no walk: one application.) -/
theorem Tryz.slices_Clone_string (b off n c : Nat) (zs : List ByteArray) (w : World) (hz : n ≤ zs.length) (hbig : n * 16 ≤ 140737488355328) (hc : ∀ j, j < zs.length → w.cell? ⟨b, off + j, none⟩ = some (.string (zs.getD j ByteArray.empty))) :
    Calls Tryz.prog 162 #[.slice (some ⟨b, off, none⟩) n c] w fun e w' => ∃ v', e = .returned v' ∧ w'.ownsRow w.heap.size 9 1 v' n ((zs.take n).map (Value.string)) ∧ v' ≠ .slice none 0 0 ∧ Below w.heap.size w w' := Any.slices_Clone_string Tryz.laysNm216 b off n c zs w hz hbig hc
open Go.RowKit Go.Lib in
/-- The same at a slice of length 0 that is not nil, WHATEVER ITS ADDRESS (no cell is asked for): a slice that is not nil and owns nothing comes back. (LAID: no walk: one application.) -/
theorem Tryz.slices_Clone_string_zero (a : Addr) (c : Nat) (w : World) :
    Calls Tryz.prog 162 #[.slice (some a) 0 c] w fun e w' => ∃ v', e = .returned v' ∧ w'.ownsRow w.heap.size 9 1 v' 0 [] ∧ v' ≠ .slice none 0 0 ∧ Below w.heap.size w w' := Any.slices_Clone_string_zero Tryz.laysNm216 a c w
end Go.Proofs
