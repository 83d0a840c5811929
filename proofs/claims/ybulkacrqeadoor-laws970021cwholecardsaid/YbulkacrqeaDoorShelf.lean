/-
  The shelf of library contracts laid at this seat by the kit tools lay-shelf and lay-plain; trimmed to what the proofs use.
-/
import Derived.Shelf.Strconv.Itoa0
import Derived.Shelf.Strconv.Itoa1
import Derived.Shelf.LaysM
import Derived.Shelf.Strconv.Itoa2
import Derived.Shelf.Strconv.Itoa3
import Derived.Ground.MpProg
import Derived.Shelf.Pu.ParseUintPublic10
import Derived.Shelf.Pu.ErrVarParseUint
import Derived.Ground.SlbCloneProg
import Derived.Shelf.Bytes.SlClone
import Derived.Shelf.Bytes.SlEqualAll
import Derived.Shelf.Bytes.Small
import Derived.Test.YbulkacrqeaDoorProg
namespace Go.Proofs
open Go.Shelf
def Ybad.lays283_ren : Go.Shelf.Ren := ⟨fun | 283 => 14 | n => n, fun | 3 => 3 | 9 => 9 | 4 => 4 | n => n, fun | n => n⟩
theorem Ybad.lays283 : Go.Proofs.Lays.n283 Ybad.prog Ybad.lays283_ren := {
  mixed := by kernel_rfl
  f283 := Ybad.func14.trans (congrArg some (by kernel_rfl))
  t3 := Ybad.underlying3
  a3 := Ybad.isAgg3
  z3 := Ybad.sizeOf3
  v3 := Ybad.zeroValue3
  t4 := Ybad.underlying4
  a4 := Ybad.isAgg4
  z4 := Ybad.sizeOf4
  v4 := Ybad.zeroValue4
  t9 := Ybad.underlying9
  a9 := Ybad.isAgg9
  z9 := Ybad.sizeOf9
  v9 := Ybad.zeroValue9 }
open Go.Lib in
theorem Ybad.internal_strconv_small (i : Nat) (h : i < 100) (w : World) :
    Calls Ybad.prog 14 #[.int .i64 i] w fun e w' => e = .returned (.string ⟨(Lib.decDigits i).toArray⟩) ∧ w' = w := Any.internal_strconv_small Ybad.lays283 i h w
def Ybad.laysM284_ren : Go.Shelf.Ren := ⟨fun | 284 => 15 | 129 => 25 | 317 => 24 | 318 => 26 | n => n, fun | 53 => 24 | 3 => 3 | 212 => 51 | 0 => 0 | 4 => 4 | 46 => 44 | 5 => 5 | 9 => 9 | n => n, fun | 17 => 0 | n => n⟩
theorem Ybad.laysM284 : Go.Proofs.LaysM.n284 Ybad.prog Ybad.laysM284_ren := {
  mixed := by kernel_rfl
  f129 := Ybad.func25.trans (congrArg some (by kernel_rfl))
  f284 := Ybad.func15.trans (congrArg some (by kernel_rfl))
  f317 := Ybad.func24.trans (congrArg some (by kernel_rfl))
  f318 := Ybad.func26.trans (congrArg some (by kernel_rfl))
  t0 := Ybad.underlying0
  a0 := Ybad.isAgg0
  z0 := Ybad.sizeOf0
  v0 := Ybad.zeroValue0
  t3 := Ybad.underlying3
  a3 := Ybad.isAgg3
  z3 := Ybad.sizeOf3
  v3 := Ybad.zeroValue3
  t4 := Ybad.underlying4
  a4 := Ybad.isAgg4
  z4 := Ybad.sizeOf4
  v4 := Ybad.zeroValue4
  t5 := Ybad.underlying5
  a5 := Ybad.isAgg5
  z5 := Ybad.sizeOf5
  v5 := Ybad.zeroValue5
  t9 := Ybad.underlying9
  a9 := Ybad.isAgg9
  z9 := Ybad.sizeOf9
  v9 := Ybad.zeroValue9
  t46 := Ybad.underlying44
  a46 := Ybad.isAgg44
  z46 := Ybad.sizeOf44
  v46 := Ybad.zeroValue44
  t53 := Ybad.underlying24
  a53 := Ybad.isAgg24
  z53 := Ybad.sizeOf24
  v53 := Ybad.zeroValue24
  t212 := Ybad.underlying51
  a212 := Ybad.isAgg51
  z212 := Ybad.sizeOf51
  v212 := Ybad.zeroValue51
  g17 := by kernel_rfl
  i0 := by kernel_rfl
  i3 := by kernel_rfl
  i4 := by kernel_rfl
  i5 := by kernel_rfl
  i9 := by kernel_rfl
  i46 := by kernel_rfl
  i53 := by kernel_rfl
  i212 := by kernel_rfl
  m17 := by kernel_rfl }
def Ybad.lays285_ren : Go.Shelf.Ren := ⟨fun | 285 => 16 | n => n, fun | 37 => 22 | 53 => 24 | 3 => 3 | 4 => 4 | 51 => 52 | 9 => 9 | 5 => 5 | 0 => 0 | n => n, fun | n => n⟩
theorem Ybad.lays285 : Go.Proofs.Lays.n285 Ybad.prog Ybad.lays285_ren := {
  mixed := by kernel_rfl
  f285 := Ybad.func16.trans (congrArg some (by kernel_rfl))
  t0 := Ybad.underlying0
  a0 := Ybad.isAgg0
  z0 := Ybad.sizeOf0
  v0 := Ybad.zeroValue0
  t3 := Ybad.underlying3
  a3 := Ybad.isAgg3
  z3 := Ybad.sizeOf3
  v3 := Ybad.zeroValue3
  t4 := Ybad.underlying4
  a4 := Ybad.isAgg4
  z4 := Ybad.sizeOf4
  v4 := Ybad.zeroValue4
  t5 := Ybad.underlying5
  a5 := Ybad.isAgg5
  z5 := Ybad.sizeOf5
  v5 := Ybad.zeroValue5
  t9 := Ybad.underlying9
  a9 := Ybad.isAgg9
  z9 := Ybad.sizeOf9
  v9 := Ybad.zeroValue9
  t37 := Ybad.underlying22
  a37 := Ybad.isAgg22
  z37 := Ybad.sizeOf22
  v37 := Ybad.zeroValue22
  t51 := Ybad.underlying52
  a51 := Ybad.isAgg52
  z51 := Ybad.sizeOf52
  v51 := Ybad.zeroValue52
  t53 := Ybad.underlying24
  a53 := Ybad.isAgg24
  z53 := Ybad.sizeOf24
  v53 := Ybad.zeroValue24 }
open Go.RowKit Go.Sort Go.Lib in
theorem Ybad.internal_strconv_formatBase10 (blk off cap : Nat) (u : Nat) (d : Array UInt8) (w : World) (hH : Holds (fun (b : UInt8) => Value.int .u8 (b.toNat : Int)) w blk off d) (hu : u < 10 ^ d.size) (hu64 : u < 18446744073709551616) (hsz : d.size < 4611686018427387904) :
    Calls Ybad.prog 16 #[.slice (some ⟨blk, off, none⟩) d.size cap, .int .u64 u] w fun e w' =>
      e = .returned (.tuple #[]) ∧ ∃ (n v' : Nat) (dk : Array UInt8), w' = (putRow (fun (b : UInt8) => Value.int .u8 (b.toNat : Int)) w blk off dk).drewN n ∧ FmtInv d.size u 0 v' dk := Any.internal_strconv_formatBase10 Ybad.lays285 blk off cap u d w hH hu hu64 hsz
def Ybad.laysPu14_ren : Go.Shelf.Ren := ⟨fun | 14 => 10 | 16 => 12 | 17 => 13 | 19 => 18 | 20 => 19 | 21 => 20 | 22 => 21 | 23 => 22 | 24 => 23 | 25 => 29 | 27 => 31 | 26 => 30 | 28 => 34 | 29 => 35 | 30 => 14 | 31 => 15 | 32 => 16 | 33 => 17 | 35 => 25 | 34 => 24 | 36 => 26 | 37 => 27 | 38 => 28 | 39 => 32 | 40 => 33 | n => n, fun | 9 => 9 | 3 => 3 | 22 => 24 | 24 => 32 | 25 => 33 | 4 => 4 | 34 => 42 | 5 => 5 | 36 => 44 | 37 => 22 | 0 => 0 | 39 => 46 | 21 => 21 | 44 => 58 | 47 => 61 | 50 => 64 | 48 => 62 | 2 => 2 | 52 => 37 | 55 => 40 | 59 => 51 | 60 => 52 | 20 => 20 | 61 => 53 | 65 => 65 | 66 => 66 | 67 => 70 | n => n, fun | 0 => 1 | 1 => 2 | 2 => 0 | 3 => 3 | 4 => 4 | n => n⟩
theorem Ybad.laysPu14 : Go.Proofs.LaysPu.n14 Ybad.prog Ybad.laysPu14_ren := {
  mixed := by kernel_rfl
  f14 := Ybad.func10.trans (congrArg some (by kernel_rfl))
  f16 := Ybad.func12.trans (congrArg some (by kernel_rfl))
  f17 := Ybad.func13.trans (congrArg some (by kernel_rfl))
  f19 := Ybad.func18.trans (congrArg some (by kernel_rfl))
  f20 := Ybad.func19.trans (congrArg some (by kernel_rfl))
  f21 := Ybad.func20.trans (congrArg some (by kernel_rfl))
  f22 := Ybad.func21.trans (congrArg some (by kernel_rfl))
  f23 := Ybad.func22.trans (congrArg some (by kernel_rfl))
  f24 := Ybad.func23.trans (congrArg some (by kernel_rfl))
  f25 := Ybad.func29.trans (congrArg some (by kernel_rfl))
  f26 := Ybad.func30.trans (congrArg some (by kernel_rfl))
  f27 := Ybad.func31.trans (congrArg some (by kernel_rfl))
  f28 := Ybad.func34.trans (congrArg some (by kernel_rfl))
  f29 := Ybad.func35.trans (congrArg some (by kernel_rfl))
  f30 := Ybad.func14.trans (congrArg some (by kernel_rfl))
  f31 := Ybad.func15.trans (congrArg some (by kernel_rfl))
  f32 := Ybad.func16.trans (congrArg some (by kernel_rfl))
  f33 := Ybad.func17.trans (congrArg some (by kernel_rfl))
  f34 := Ybad.func24.trans (congrArg some (by kernel_rfl))
  f35 := Ybad.func25.trans (congrArg some (by kernel_rfl))
  f36 := Ybad.func26.trans (congrArg some (by kernel_rfl))
  f37 := Ybad.func27.trans (congrArg some (by kernel_rfl))
  f38 := Ybad.func28.trans (congrArg some (by kernel_rfl))
  f39 := Ybad.func32.trans (congrArg some (by kernel_rfl))
  f40 := Ybad.func33.trans (congrArg some (by kernel_rfl))
  t0 := Ybad.underlying0
  a0 := Ybad.isAgg0
  z0 := Ybad.sizeOf0
  v0 := Ybad.zeroValue0
  i0 := by kernel_rfl
  t2 := Ybad.underlying2
  a2 := Ybad.isAgg2
  z2 := Ybad.sizeOf2
  v2 := Ybad.zeroValue2
  i2 := by kernel_rfl
  t3 := Ybad.underlying3
  a3 := Ybad.isAgg3
  z3 := Ybad.sizeOf3
  v3 := Ybad.zeroValue3
  i3 := by kernel_rfl
  t4 := Ybad.underlying4
  a4 := Ybad.isAgg4
  z4 := Ybad.sizeOf4
  v4 := Ybad.zeroValue4
  i4 := by kernel_rfl
  t5 := Ybad.underlying5
  a5 := Ybad.isAgg5
  z5 := Ybad.sizeOf5
  v5 := Ybad.zeroValue5
  i5 := by kernel_rfl
  t9 := Ybad.underlying9
  a9 := Ybad.isAgg9
  z9 := Ybad.sizeOf9
  v9 := Ybad.zeroValue9
  i9 := by kernel_rfl
  t20 := Ybad.underlying20
  a20 := Ybad.isAgg20
  z20 := Ybad.sizeOf20
  v20 := Ybad.zeroValue20
  i20 := by kernel_rfl
  t21 := Ybad.underlying21
  a21 := Ybad.isAgg21
  z21 := Ybad.sizeOf21
  v21 := Ybad.zeroValue21
  i21 := by kernel_rfl
  t22 := Ybad.underlying24
  a22 := Ybad.isAgg24
  z22 := Ybad.sizeOf24
  v22 := Ybad.zeroValue24
  i22 := by kernel_rfl
  t24 := Ybad.underlying32
  a24 := Ybad.isAgg32
  z24 := Ybad.sizeOf32
  v24 := Ybad.zeroValue32
  i24 := by kernel_rfl
  t25 := Ybad.underlying33
  a25 := Ybad.isAgg33
  z25 := Ybad.sizeOf33
  v25 := Ybad.zeroValue33
  i25 := by kernel_rfl
  t34 := Ybad.underlying42
  a34 := Ybad.isAgg42
  z34 := Ybad.sizeOf42
  v34 := Ybad.zeroValue42
  i34 := by kernel_rfl
  c34 := by kernel_rfl
  t36 := Ybad.underlying44
  a36 := Ybad.isAgg44
  z36 := Ybad.sizeOf44
  v36 := Ybad.zeroValue44
  i36 := by kernel_rfl
  t37 := Ybad.underlying22
  a37 := Ybad.isAgg22
  z37 := Ybad.sizeOf22
  v37 := Ybad.zeroValue22
  i37 := by kernel_rfl
  t39 := Ybad.underlying46
  a39 := Ybad.isAgg46
  z39 := Ybad.sizeOf46
  v39 := Ybad.zeroValue46
  i39 := by kernel_rfl
  t44 := Ybad.underlying58
  a44 := Ybad.isAgg58
  z44 := Ybad.sizeOf58
  v44 := Ybad.zeroValue58
  i44 := by kernel_rfl
  t47 := Ybad.underlying61
  a47 := Ybad.isAgg61
  z47 := Ybad.sizeOf61
  v47 := Ybad.zeroValue61
  i47 := by kernel_rfl
  t48 := Ybad.underlying62
  a48 := Ybad.isAgg62
  z48 := Ybad.sizeOf62
  v48 := Ybad.zeroValue62
  i48 := by kernel_rfl
  t50 := Ybad.underlying64
  a50 := Ybad.isAgg64
  z50 := Ybad.sizeOf64
  v50 := Ybad.zeroValue64
  i50 := by kernel_rfl
  t52 := Ybad.underlying37
  a52 := Ybad.isAgg37
  z52 := Ybad.sizeOf37
  v52 := Ybad.zeroValue37
  i52 := by kernel_rfl
  t55 := Ybad.underlying40
  a55 := Ybad.isAgg40
  z55 := Ybad.sizeOf40
  v55 := Ybad.zeroValue40
  i55 := by kernel_rfl
  t59 := Ybad.underlying51
  a59 := Ybad.isAgg51
  z59 := Ybad.sizeOf51
  v59 := Ybad.zeroValue51
  i59 := by kernel_rfl
  t60 := Ybad.underlying52
  a60 := Ybad.isAgg52
  z60 := Ybad.sizeOf52
  v60 := Ybad.zeroValue52
  i60 := by kernel_rfl
  t61 := Ybad.underlying53
  a61 := Ybad.isAgg53
  z61 := Ybad.sizeOf53
  t65 := Ybad.underlying65
  a65 := Ybad.isAgg65
  z65 := Ybad.sizeOf65
  v65 := Ybad.zeroValue65
  i65 := by kernel_rfl
  t66 := Ybad.underlying66
  a66 := Ybad.isAgg66
  z66 := Ybad.sizeOf66
  v66 := Ybad.zeroValue66
  i66 := by kernel_rfl
  t67 := Ybad.underlying70
  a67 := Ybad.isAgg70
  z67 := Ybad.sizeOf70
  v67 := Ybad.zeroValue70
  i67 := by kernel_rfl
  g0 := by kernel_rfl
  m0 := by kernel_rfl
  g1 := by kernel_rfl
  m1 := by kernel_rfl
  g2 := by kernel_rfl
  m2 := by kernel_rfl
  g3 := by kernel_rfl
  m3 := by kernel_rfl
  g4 := by kernel_rfl
  m4 := by kernel_rfl }
open Go.RowKit in
theorem Ybad.strconv_ParseUint_10_at64_ok (s : ByteArray) (hmax : s.size ≤ 9223372036854775806) (u : Nat) (h : Lib.parseUintB 64 s.data.toList = .ok u) (w : World) :
    Calls Ybad.prog 10 #[.string s, .int .i64 10, .int .i64 64] w fun e w' => e = .returned (.tuple #[.int .u64 u, .nilIface]) ∧ (w' = w ∨ w' = Lib.bytesWorld w 5 s) := Any.strconv_ParseUint_10_at64_ok Ybad.laysPu14 s hmax u h w
open Go.RowKit in
theorem Ybad.strconv_ParseUint_10_at64_range (s : ByteArray) (hlim : s.size ≤ 281474976710656) (h : Lib.parseUintB 64 s.data.toList = .range) (ev : Value) (w : World) (hv : w.cell? ⟨2, 0, none⟩ = some ev) (hev : ev = .nilIface ∨ ∃ te pe, ev = .iface te pe) :
    Calls Ybad.prog 10 #[.string s, .int .i64 10, .int .i64 64] w fun e w' => ∃ N, e = .returned (.tuple #[.int .u64 18446744073709551615, .iface 46 (.pointer (some ⟨N, 0, none⟩))]) ∧ w.heap.size ≤ N ∧ w'.heap[N]? = some (.cells #[.string ⟨#[80, 97, 114, 115, 101, 85, 105, 110, 116]⟩, .string s, ev] 58 (0, 0)) ∧ Below w.heap.size w w' := Any.strconv_ParseUint_10_at64_range Ybad.laysPu14 s hlim h ev w hv hev
def Ybad.laysSlK4_ren : Go.Shelf.Ren := ⟨fun | 4 => 5 | n => n, fun | 22 => 22 | 4 => 4 | 5 => 5 | n => n, fun | n => n⟩
theorem Ybad.laysSlK4 : Go.Proofs.SlLaysK.n4 Ybad.prog Ybad.laysSlK4_ren := {
  mixed := by kernel_rfl
  f4 := Ybad.func5.trans (congrArg some (by kernel_rfl))
  t4 := Ybad.underlying4
  a4 := Ybad.isAgg4
  z4 := Ybad.sizeOf4
  v4 := Ybad.zeroValue4
  t22 := Ybad.underlying22
  a22 := Ybad.isAgg22
  z22 := Ybad.sizeOf22
  v22 := Ybad.zeroValue22
  t5 := Ybad.underlying5
  i5 := by kernel_rfl }
open Go.RowKit Go.Lib in
theorem Ybad.bytes_Clone_at (a : Addr) (n c : Nat) (xs : List Int) (w : World) (hx : xs.length = n) (hbig : n ≤ 140737488355328) (hc : ∀ i, i < n → w.cell? (a.add i) = some (.int .u8 (xs.getD i 0))) :
    Calls Ybad.prog 5 #[.slice (some a) n c] w fun e w' => ∃ v', e = .returned v' ∧ w'.ownsRow w.heap.size 5 1 v' n (xs.map (Value.int .u8)) ∧ v' ≠ .slice none 0 0 ∧ Below w.heap.size w w' := Any.bytes_Clone_at Ybad.laysSlK4 a n c xs w hx hbig hc
open Go.RowKit Go.Lib in
theorem Ybad.bytes_Clone_nil (n c : Nat) (w : World) :
    Calls Ybad.prog 5 #[.slice none n c] w fun e w' => e = .returned (.slice none 0 0) ∧ w' = w := Any.bytes_Clone_nil Ybad.laysSlK4 n c w
def Ybad.laysnb115_ren : Go.Shelf.Ren := ⟨fun | 115 => 8 | n => n, fun | 37 => 22 | 4 => 4 | 9 => 9 | 5 => 5 | n => n, fun | n => n⟩
theorem Ybad.laysnb115 : Go.Proofs.Lays.nb115 Ybad.prog Ybad.laysnb115_ren := {
  mixed := by kernel_rfl
  f115 := Ybad.func8.trans (congrArg some (by kernel_rfl))
  t4 := Ybad.underlying4
  a4 := Ybad.isAgg4
  z4 := Ybad.sizeOf4
  v4 := Ybad.zeroValue4
  t9 := Ybad.underlying9
  a9 := Ybad.isAgg9
  z9 := Ybad.sizeOf9
  v9 := Ybad.zeroValue9
  t37 := Ybad.underlying22
  a37 := Ybad.isAgg22
  z37 := Ybad.sizeOf22
  v37 := Ybad.zeroValue22
  t5 := Ybad.underlying5
  a5 := Ybad.isAgg5
  z5 := Ybad.sizeOf5
  v5 := Ybad.zeroValue5 }
theorem Ybad.bytes_Equal_all (p1 p2 : Option Addr) (n c m d : Nat) (xs ys : List Int) (w : World) (hx : xs.length = n) (hy : ys.length = m) (h1 : Lib.BytesIn w p1 n xs) (h2 : Lib.BytesIn w p2 m ys) :
    Calls Ybad.prog 8 #[.slice p1 n c, .slice p2 m d] w fun e w' => e = .returned (.bool (Lib.bytesOf xs == Lib.bytesOf ys)) ∧ w' = w := Any.bytes_Equal_all Ybad.laysnb115 p1 p2 n c m d xs ys w hx hy h1 h2
end Go.Proofs
