
import Derived.Shelf.Small.Bits
import Derived.Ground.PaProg
import Derived.Shelf.Hex.Tagged
import Derived.Shelf.Strconv.Itoa0
import Derived.Shelf.Strconv.Itoa1
import Derived.Shelf.LaysM
import Derived.Shelf.Strconv.Itoa2
import Derived.Ground.MnProg
import Derived.Shelf.Bin.BEUint64
import Derived.Shelf.Bin.BEUint64Panics
import Derived.Shelf.Bin.ReadersZ
import Derived.Shelf.Strconv.AppendUint10
import Derived.Shelf.Strconv.AppendInt10
import Derived.Shelf.Hex.Lens
import Derived.Shelf.Hex.Encode
import Derived.Shelf.SlSortCmp.NoneTotal
import Derived.Shelf.SlGeneric
import Derived.Ground.SlsfProg
import Derived.Test.YbulkedvmDoorProg
namespace Go.Proofs
open Go.Shelf
set_option maxRecDepth 1000000
def Ybad.lays128_ren : Go.Shelf.Ren := ⟨fun | 128 => 31 | n => n, fun | 51 => 70 | 3 => 3 | 4 => 4 | 46 => 48 | 5 => 5 | 9 => 9 | n => n, fun | n => n⟩
theorem Ybad.lays128 : Go.Proofs.Lays.n128 Ybad.prog Ybad.lays128_ren := {
  mixed := by kernel_rfl
  f128 := Ybad.func31.trans (congrArg some (by kernel_rfl))
  t3 := Ybad.underlying3
  a3 := Ybad.isAgg3
  z3 := Ybad.sizeOf3
  v3 := Ybad.zeroValue3
  t4 := Ybad.underlying4
  a4 := Ybad.isAgg4
  z4 := Ybad.sizeOf4
  v4 := Ybad.zeroValue4
  t5 := Ybad.underlying5
  a5 := Ybad.isAgg5
  z5 := Ybad.sizeOf5
  v5 := Ybad.zeroValue5
  t9 := Ybad.underlying9
  a9 := Ybad.isAgg9
  z9 := Ybad.sizeOf9
  v9 := Ybad.zeroValue9
  t46 := Ybad.underlying48
  a46 := Ybad.isAgg48
  z46 := Ybad.sizeOf48
  v46 := Ybad.zeroValue48
  t51 := Ybad.underlying70
  a51 := Ybad.isAgg70
  z51 := Ybad.sizeOf70
  v51 := Ybad.zeroValue70 }
theorem Ybad.bits_Len32 (x : Int) (w : World) (h0 : 0 ≤ x) (h1 : x ≤ 4294967295) :
    Calls Ybad.prog 31 #[.int .u32 x] w fun e w' => e = .returned (.int .i64 (Lib.bitLen x.toNat)) ∧ w' = w := Any.bits_Len32 Ybad.lays128 x w h0 h1
def Ybad.lays125_ren : Go.Shelf.Ren := ⟨fun | 125 => 18 | 128 => 31 | 129 => 32 | n => n, fun | 46 => 48 | 3 => 3 | 51 => 70 | 53 => 29 | 4 => 4 | 5 => 5 | 9 => 9 | n => n, fun | n => n⟩
theorem Ybad.lays125 : Go.Proofs.Lays.n125 Ybad.prog Ybad.lays125_ren := {
  mixed := by kernel_rfl
  f125 := Ybad.func18.trans (congrArg some (by kernel_rfl))
  f128 := Ybad.func31.trans (congrArg some (by kernel_rfl))
  f129 := Ybad.func32.trans (congrArg some (by kernel_rfl))
  t3 := Ybad.underlying3
  a3 := Ybad.isAgg3
  z3 := Ybad.sizeOf3
  v3 := Ybad.zeroValue3
  t4 := Ybad.underlying4
  a4 := Ybad.isAgg4
  z4 := Ybad.sizeOf4
  v4 := Ybad.zeroValue4
  t5 := Ybad.underlying5
  a5 := Ybad.isAgg5
  z5 := Ybad.sizeOf5
  v5 := Ybad.zeroValue5
  t9 := Ybad.underlying9
  a9 := Ybad.isAgg9
  z9 := Ybad.sizeOf9
  v9 := Ybad.zeroValue9
  t46 := Ybad.underlying48
  a46 := Ybad.isAgg48
  z46 := Ybad.sizeOf48
  v46 := Ybad.zeroValue48
  t51 := Ybad.underlying70
  a51 := Ybad.isAgg70
  z51 := Ybad.sizeOf70
  v51 := Ybad.zeroValue70
  t53 := Ybad.underlying29
  a53 := Ybad.isAgg29
  z53 := Ybad.sizeOf29
  v53 := Ybad.zeroValue29 }
theorem Ybad.bits_Len (x : Int) (w : World) (h0 : 0 ≤ x) (h1 : x ≤ 18446744073709551615) :
    Calls Ybad.prog 18 #[.int .u64 x] w fun e w' => e = .returned (.int .i64 (Lib.bitLen x.toNat)) ∧ w' = w := Any.bits_Len Ybad.lays125 x w h0 h1
def Ybad.laysPa40_ren : Go.Shelf.Ren := ⟨fun | 40 => 40 | n => n, fun | 30 => 23 | 3 => 3 | 0 => 0 | 5 => 5 | 46 => 48 | 9 => 9 | n => n, fun | n => n⟩
theorem Ybad.laysPa40 : Go.Proofs.Lays.p40 Ybad.prog Ybad.laysPa40_ren := {
  mixed := by kernel_rfl
  f40 := Ybad.func40.trans (congrArg some (by kernel_rfl))
  t0 := Ybad.underlying0
  a0 := Ybad.isAgg0
  z0 := Ybad.sizeOf0
  v0 := Ybad.zeroValue0
  t3 := Ybad.underlying3
  a3 := Ybad.isAgg3
  z3 := Ybad.sizeOf3
  v3 := Ybad.zeroValue3
  t5 := Ybad.underlying5
  a5 := Ybad.isAgg5
  z5 := Ybad.sizeOf5
  v5 := Ybad.zeroValue5
  t9 := Ybad.underlying9
  a9 := Ybad.isAgg9
  z9 := Ybad.sizeOf9
  v9 := Ybad.zeroValue9
  t30 := Ybad.underlying23
  a30 := Ybad.isAgg23
  z30 := Ybad.sizeOf23
  v30 := Ybad.zeroValue23
  t46 := Ybad.underlying48
  a46 := Ybad.isAgg48
  z46 := Ybad.sizeOf48
  v46 := Ybad.zeroValue48 }
open Go.RowKit Go.Lib in
theorem Ybad.hex_Encode_tag (T : TypeId) (bd od nd cd N : Nat) (f : Nat → Value) (bs os n cs : Nat) (xs : List Int) (w : World) (hx : xs.length = n) (hr : ∀ i, i < n → 0 ≤ xs.getD i 0 ∧ xs.getD i 0 < 256) (hsrc : ∀ i, i < n → w.cell? ⟨bs, os + i, none⟩ = some (.int .u8 (xs.getD i 0))) (hrow : w.rowIs bd T N f) (hfit : od + nd ≤ N) (hlen : 2 * n ≤ nd) (hne : bd ≠ bs) (hbig : n ≤ 4611686018427387903) :
    Calls Ybad.prog 40 #[.slice (some ⟨bd, od, none⟩) nd cd, .slice (some ⟨bs, os, none⟩) n cs] w fun e w' => e = .returned (.int .i64 ((n : Int) * 2)) ∧ w'.rowIs bd T N (Hx.row f od (Lib.bytesOf xs) n) ∧ w.grownBy w' (some bd) := Any.hex_Encode_tag Ybad.laysPa40 T bd od nd cd N f bs os n cs xs w hx hr hsrc hrow hfit hlen hne hbig
def Ybad.lays129_ren : Go.Shelf.Ren := ⟨fun | 129 => 32 | n => n, fun | 53 => 29 | 3 => 3 | 4 => 4 | 46 => 48 | 5 => 5 | 9 => 9 | n => n, fun | n => n⟩
theorem Ybad.lays129 : Go.Proofs.Lays.n129 Ybad.prog Ybad.lays129_ren := {
  mixed := by kernel_rfl
  f129 := Ybad.func32.trans (congrArg some (by kernel_rfl))
  t3 := Ybad.underlying3
  a3 := Ybad.isAgg3
  z3 := Ybad.sizeOf3
  v3 := Ybad.zeroValue3
  t4 := Ybad.underlying4
  a4 := Ybad.isAgg4
  z4 := Ybad.sizeOf4
  v4 := Ybad.zeroValue4
  t5 := Ybad.underlying5
  a5 := Ybad.isAgg5
  z5 := Ybad.sizeOf5
  v5 := Ybad.zeroValue5
  t9 := Ybad.underlying9
  a9 := Ybad.isAgg9
  z9 := Ybad.sizeOf9
  v9 := Ybad.zeroValue9
  t46 := Ybad.underlying48
  a46 := Ybad.isAgg48
  z46 := Ybad.sizeOf48
  v46 := Ybad.zeroValue48
  t53 := Ybad.underlying29
  a53 := Ybad.isAgg29
  z53 := Ybad.sizeOf29
  v53 := Ybad.zeroValue29 }
theorem Ybad.bits_Len64 (x : Int) (w : World) (h0 : 0 ≤ x) (h1 : x ≤ 18446744073709551615) :
    Calls Ybad.prog 32 #[.int .u64 x] w fun e w' => e = .returned (.int .i64 (Lib.bitLen x.toNat)) ∧ w' = w := Any.bits_Len64 Ybad.lays129 x w h0 h1
def Ybad.lays317_ren : Go.Shelf.Ren := ⟨fun | 317 => 46 | n => n, fun | 3 => 3 | 46 => 48 | n => n, fun | n => n⟩
theorem Ybad.lays317 : Go.Proofs.Lays.n317 Ybad.prog Ybad.lays317_ren := {
  mixed := by kernel_rfl
  f317 := Ybad.func46.trans (congrArg some (by kernel_rfl))
  t3 := Ybad.underlying3
  a3 := Ybad.isAgg3
  z3 := Ybad.sizeOf3
  v3 := Ybad.zeroValue3
  t46 := Ybad.underlying48
  a46 := Ybad.isAgg48
  z46 := Ybad.sizeOf48
  v46 := Ybad.zeroValue48 }
open Go.Lib in
theorem Ybad.internal_strconv_log10Pow2 (x : Nat) (h : x ≤ 64) (w : World) :
    Calls Ybad.prog 46 #[.int .i64 x] w fun e w' => e = .returned (.int .i64 (Lib.l10 x)) ∧ w' = w := Any.internal_strconv_log10Pow2 Ybad.lays317 x h w
def Ybad.lays318_ren : Go.Shelf.Ren := ⟨fun | 318 => 47 | n => n, fun | 3 => 3 | 4 => 4 | n => n, fun | n => n⟩
theorem Ybad.lays318 : Go.Proofs.Lays.n318 Ybad.prog Ybad.lays318_ren := {
  mixed := by kernel_rfl
  f318 := Ybad.func47.trans (congrArg some (by kernel_rfl))
  t3 := Ybad.underlying3
  a3 := Ybad.isAgg3
  z3 := Ybad.sizeOf3
  v3 := Ybad.zeroValue3
  t4 := Ybad.underlying4
  a4 := Ybad.isAgg4
  z4 := Ybad.sizeOf4
  v4 := Ybad.zeroValue4 }
open Go.Lib in
theorem Ybad.internal_strconv_bool2_int (b : Bool) (w : World) :
    Calls Ybad.prog 47 #[.bool b] w fun e w' => e = .returned (.int .i64 (if b then 1 else 0)) ∧ w' = w := Any.internal_strconv_bool2_int Ybad.lays318 b w
def Ybad.lays283_ren : Go.Shelf.Ren := ⟨fun | 283 => 34 | n => n, fun | 3 => 3 | 9 => 9 | 4 => 4 | n => n, fun | n => n⟩
theorem Ybad.lays283 : Go.Proofs.Lays.n283 Ybad.prog Ybad.lays283_ren := {
  mixed := by kernel_rfl
  f283 := Ybad.func34.trans (congrArg some (by kernel_rfl))
  t3 := Ybad.underlying3
  a3 := Ybad.isAgg3
  z3 := Ybad.sizeOf3
  v3 := Ybad.zeroValue3
  t4 := Ybad.underlying4
  a4 := Ybad.isAgg4
  z4 := Ybad.sizeOf4
  v4 := Ybad.zeroValue4
  t9 := Ybad.underlying9
  a9 := Ybad.isAgg9
  z9 := Ybad.sizeOf9
  v9 := Ybad.zeroValue9 }
open Go.Lib in
theorem Ybad.internal_strconv_small (i : Nat) (h : i < 100) (w : World) :
    Calls Ybad.prog 34 #[.int .i64 i] w fun e w' => e = .returned (.string ⟨(Lib.decDigits i).toArray⟩) ∧ w' = w := Any.internal_strconv_small Ybad.lays283 i h w
def Ybad.laysM284_ren : Go.Shelf.Ren := ⟨fun | 284 => 35 | 129 => 32 | 317 => 46 | 318 => 47 | n => n, fun | 53 => 29 | 3 => 3 | 212 => 88 | 0 => 0 | 4 => 4 | 46 => 48 | 5 => 5 | 9 => 9 | n => n, fun | 17 => 1 | n => n⟩
theorem Ybad.laysM284 : Go.Proofs.LaysM.n284 Ybad.prog Ybad.laysM284_ren := {
  mixed := by kernel_rfl
  f129 := Ybad.func32.trans (congrArg some (by kernel_rfl))
  f284 := Ybad.func35.trans (congrArg some (by kernel_rfl))
  f317 := Ybad.func46.trans (congrArg some (by kernel_rfl))
  f318 := Ybad.func47.trans (congrArg some (by kernel_rfl))
  t0 := Ybad.underlying0
  a0 := Ybad.isAgg0
  z0 := Ybad.sizeOf0
  v0 := Ybad.zeroValue0
  t3 := Ybad.underlying3
  a3 := Ybad.isAgg3
  z3 := Ybad.sizeOf3
  v3 := Ybad.zeroValue3
  t4 := Ybad.underlying4
  a4 := Ybad.isAgg4
  z4 := Ybad.sizeOf4
  v4 := Ybad.zeroValue4
  t5 := Ybad.underlying5
  a5 := Ybad.isAgg5
  z5 := Ybad.sizeOf5
  v5 := Ybad.zeroValue5
  t9 := Ybad.underlying9
  a9 := Ybad.isAgg9
  z9 := Ybad.sizeOf9
  v9 := Ybad.zeroValue9
  t46 := Ybad.underlying48
  a46 := Ybad.isAgg48
  z46 := Ybad.sizeOf48
  v46 := Ybad.zeroValue48
  t53 := Ybad.underlying29
  a53 := Ybad.isAgg29
  z53 := Ybad.sizeOf29
  v53 := Ybad.zeroValue29
  t212 := Ybad.underlying88
  a212 := Ybad.isAgg88
  z212 := Ybad.sizeOf88
  v212 := Ybad.zeroValue88
  g17 := by kernel_rfl
  i0 := by kernel_rfl
  i3 := by kernel_rfl
  i4 := by kernel_rfl
  i5 := by kernel_rfl
  i9 := by kernel_rfl
  i46 := by kernel_rfl
  i53 := by kernel_rfl
  i212 := by kernel_rfl
  m17 := by kernel_rfl }
open Go.Lib in
def Ybad.lays285_ren : Go.Shelf.Ren := ⟨fun | 285 => 36 | n => n, fun | 37 => 23 | 53 => 29 | 3 => 3 | 4 => 4 | 51 => 70 | 9 => 9 | 5 => 5 | 0 => 0 | n => n, fun | n => n⟩
theorem Ybad.lays285 : Go.Proofs.Lays.n285 Ybad.prog Ybad.lays285_ren := {
  mixed := by kernel_rfl
  f285 := Ybad.func36.trans (congrArg some (by kernel_rfl))
  t0 := Ybad.underlying0
  a0 := Ybad.isAgg0
  z0 := Ybad.sizeOf0
  v0 := Ybad.zeroValue0
  t3 := Ybad.underlying3
  a3 := Ybad.isAgg3
  z3 := Ybad.sizeOf3
  v3 := Ybad.zeroValue3
  t4 := Ybad.underlying4
  a4 := Ybad.isAgg4
  z4 := Ybad.sizeOf4
  v4 := Ybad.zeroValue4
  t5 := Ybad.underlying5
  a5 := Ybad.isAgg5
  z5 := Ybad.sizeOf5
  v5 := Ybad.zeroValue5
  t9 := Ybad.underlying9
  a9 := Ybad.isAgg9
  z9 := Ybad.sizeOf9
  v9 := Ybad.zeroValue9
  t37 := Ybad.underlying23
  a37 := Ybad.isAgg23
  z37 := Ybad.sizeOf23
  v37 := Ybad.zeroValue23
  t51 := Ybad.underlying70
  a51 := Ybad.isAgg70
  z51 := Ybad.sizeOf70
  v51 := Ybad.zeroValue70
  t53 := Ybad.underlying29
  a53 := Ybad.isAgg29
  z53 := Ybad.sizeOf29
  v53 := Ybad.zeroValue29 }
open Go.RowKit Go.Sort Go.Lib in
theorem Ybad.internal_strconv_formatBase10 (blk off cap : Nat) (u : Nat) (d : Array UInt8) (w : World) (hH : Holds (fun (b : UInt8) => Value.int .u8 (b.toNat : Int)) w blk off d) (hu : u < 10 ^ d.size) (hu64 : u < 18446744073709551616) (hsz : d.size < 4611686018427387904) :
    Calls Ybad.prog 36 #[.slice (some ⟨blk, off, none⟩) d.size cap, .int .u64 u] w fun e w' =>
      e = .returned (.tuple #[]) ∧ ∃ (n v' : Nat) (dk : Array UInt8), w' = (putRow (fun (b : UInt8) => Value.int .u8 (b.toNat : Int)) w blk off dk).drewN n ∧ FmtInv d.size u 0 v' dk := Any.internal_strconv_formatBase10 Ybad.lays285 blk off cap u d w hH hu hu64 hsz
def Ybad.laysBin42_ren : Go.Shelf.Ren := ⟨fun | 42 => 19 | n => n, fun | 37 => 57 | 22 => 23 | 33 => 29 | 0 => 0 | 5 => 5 | 45 => 48 | n => n, fun | n => n⟩
theorem Ybad.laysBin42 : Go.Proofs.LaysBin.n42 Ybad.prog Ybad.laysBin42_ren := {
  mixed := by kernel_rfl
  f42 := Ybad.func19.trans (congrArg some (by kernel_rfl))
  t0 := Ybad.underlying0
  a0 := Ybad.isAgg0
  z0 := Ybad.sizeOf0
  v0 := Ybad.zeroValue0
  i0 := by kernel_rfl
  t5 := Ybad.underlying5
  a5 := Ybad.isAgg5
  z5 := Ybad.sizeOf5
  v5 := Ybad.zeroValue5
  i5 := by kernel_rfl
  t22 := Ybad.underlying23
  a22 := Ybad.isAgg23
  z22 := Ybad.sizeOf23
  v22 := Ybad.zeroValue23
  i22 := by kernel_rfl
  t33 := Ybad.underlying29
  a33 := Ybad.isAgg29
  z33 := Ybad.sizeOf29
  v33 := Ybad.zeroValue29
  i33 := by kernel_rfl
  t37 := Ybad.underlying57
  a37 := Ybad.isAgg57
  z37 := Ybad.sizeOf57
  v37 := Ybad.zeroValue57
  i37 := by kernel_rfl
  t45 := Ybad.underlying48
  a45 := Ybad.isAgg48
  z45 := Ybad.sizeOf48
  v45 := Ybad.zeroValue48
  i45 := by kernel_rfl }
open Go.RowKit in
theorem Ybad.binary_BE_Uint64 (g o n c : Nat) (b0 b1 b2 b3 b4 b5 b6 b7 : UInt8) (w : World) (hn : 8 ≤ n) (c0 : w.cell? ⟨g, o, none⟩ = some (.int .u8 b0.toNat)) (c1 : w.cell? ⟨g, o + 1, none⟩ = some (.int .u8 b1.toNat)) (c2 : w.cell? ⟨g, o + 2, none⟩ = some (.int .u8 b2.toNat)) (c3 : w.cell? ⟨g, o + 3, none⟩ = some (.int .u8 b3.toNat)) (c4 : w.cell? ⟨g, o + 4, none⟩ = some (.int .u8 b4.toNat)) (c5 : w.cell? ⟨g, o + 5, none⟩ = some (.int .u8 b5.toNat)) (c6 : w.cell? ⟨g, o + 6, none⟩ = some (.int .u8 b6.toNat)) (c7 : w.cell? ⟨g, o + 7, none⟩ = some (.int .u8 b7.toNat)) :
    Calls Ybad.prog 19 #[.agg #[], .slice (some ⟨g, o, none⟩) n c] w fun e w' => e = .returned (.int .u64 (Lib.beNat [b0, b1, b2, b3, b4, b5, b6, b7])) ∧ Below w.heap.size w w' := Any.binary_BE_Uint64 Ybad.laysBin42 g o n c b0 b1 b2 b3 b4 b5 b6 b7 w hn c0 c1 c2 c3 c4 c5 c6 c7
open Go.RowKit in
theorem Ybad.binary_BE_Uint64_panics (ao : Option Addr) (n c : Nat) (w : World) (hn : n < 8) (hnil : ao = none → n = 0) :
    Calls Ybad.prog 19 #[.agg #[], .slice ao n c] w fun e w' => Lib.boundsPanicked Ybad.prog 7 n e ∧ w' = (w.alloc (.cells #[] 57)).drew := Any.binary_BE_Uint64_panics Ybad.laysBin42 ao n c w hn hnil
open Go.RowKit in
theorem Ybad.binary_BE_Uint64_z (a : Addr) (n c : Nat) (zs : List Int) (w : World) (hn : 8 ≤ n) (hl : 8 ≤ zs.length) (hcell : ∀ i, i < zs.length → w.cell? (a.add i) = some (.int .u8 (zs.getD i 0))) (hw : ∀ z ∈ zs, (Lit.int .u8 z).wf = true) :
    Calls Ybad.prog 19 #[.agg #[], .slice (some a) n c] w fun e w' => e = .returned (.int .u64 (Lib.beZ (zs.take 8))) ∧ Below w.heap.size w w' := Any.binary_BE_Uint64_z Ybad.laysBin42 a n c zs w hn hl hcell hw
def Ybad.laysM288_ren : Go.Shelf.Ren := ⟨fun | 288 => 21 | 283 => 34 | 284 => 35 | 285 => 36 | 286 => 37 | 129 => 32 | 317 => 46 | 318 => 47 | 319 => 48 | 320 => 49 | 337 => 51 | 338 => 52 | n => n, fun | 37 => 23 | 53 => 29 | 3 => 3 | 4 => 4 | 9 => 9 | 171 => 74 | 0 => 0 | 173 => 76 | 212 => 88 | 51 => 70 | 5 => 5 | 20 => 20 | 213 => 89 | 46 => 48 | 232 => 94 | 233 => 95 | n => n, fun | 17 => 1 | 18 => 2 | 19 => 3 | n => n⟩
theorem Ybad.laysM288 : Go.Proofs.LaysM.n288 Ybad.prog Ybad.laysM288_ren := {
  mixed := by kernel_rfl
  f129 := Ybad.func32.trans (congrArg some (by kernel_rfl))
  f283 := Ybad.func34.trans (congrArg some (by kernel_rfl))
  f284 := Ybad.func35.trans (congrArg some (by kernel_rfl))
  f285 := Ybad.func36.trans (congrArg some (by kernel_rfl))
  f286 := Ybad.func37.trans (congrArg some (by kernel_rfl))
  f288 := Ybad.func21.trans (congrArg some (by kernel_rfl))
  f317 := Ybad.func46.trans (congrArg some (by kernel_rfl))
  f318 := Ybad.func47.trans (congrArg some (by kernel_rfl))
  f319 := Ybad.func48.trans (congrArg some (by kernel_rfl))
  f320 := Ybad.func49.trans (congrArg some (by kernel_rfl))
  f337 := Ybad.func51.trans (congrArg some (by kernel_rfl))
  f338 := Ybad.func52.trans (congrArg some (by kernel_rfl))
  t0 := Ybad.underlying0
  a0 := Ybad.isAgg0
  z0 := Ybad.sizeOf0
  v0 := Ybad.zeroValue0
  t3 := Ybad.underlying3
  a3 := Ybad.isAgg3
  z3 := Ybad.sizeOf3
  v3 := Ybad.zeroValue3
  t4 := Ybad.underlying4
  a4 := Ybad.isAgg4
  z4 := Ybad.sizeOf4
  v4 := Ybad.zeroValue4
  t5 := Ybad.underlying5
  a5 := Ybad.isAgg5
  z5 := Ybad.sizeOf5
  v5 := Ybad.zeroValue5
  t9 := Ybad.underlying9
  a9 := Ybad.isAgg9
  z9 := Ybad.sizeOf9
  v9 := Ybad.zeroValue9
  t20 := Ybad.underlying20
  a20 := Ybad.isAgg20
  z20 := Ybad.sizeOf20
  v20 := Ybad.zeroValue20
  t37 := Ybad.underlying23
  a37 := Ybad.isAgg23
  z37 := Ybad.sizeOf23
  v37 := Ybad.zeroValue23
  t46 := Ybad.underlying48
  a46 := Ybad.isAgg48
  z46 := Ybad.sizeOf48
  v46 := Ybad.zeroValue48
  t51 := Ybad.underlying70
  a51 := Ybad.isAgg70
  z51 := Ybad.sizeOf70
  v51 := Ybad.zeroValue70
  t53 := Ybad.underlying29
  a53 := Ybad.isAgg29
  z53 := Ybad.sizeOf29
  v53 := Ybad.zeroValue29
  t171 := Ybad.underlying74
  a171 := Ybad.isAgg74
  z171 := Ybad.sizeOf74
  v171 := Ybad.zeroValue74
  t173 := Ybad.underlying76
  a173 := Ybad.isAgg76
  z173 := Ybad.sizeOf76
  v173 := Ybad.zeroValue76
  t212 := Ybad.underlying88
  a212 := Ybad.isAgg88
  z212 := Ybad.sizeOf88
  v212 := Ybad.zeroValue88
  t213 := Ybad.underlying89
  a213 := Ybad.isAgg89
  z213 := Ybad.sizeOf89
  t232 := Ybad.underlying94
  a232 := Ybad.isAgg94
  z232 := Ybad.sizeOf94
  v232 := Ybad.zeroValue94
  t233 := Ybad.underlying95
  a233 := Ybad.isAgg95
  z233 := Ybad.sizeOf95
  v233 := Ybad.zeroValue95
  g17 := by kernel_rfl
  g18 := by kernel_rfl
  g19 := by kernel_rfl
  i0 := by kernel_rfl
  i3 := by kernel_rfl
  i4 := by kernel_rfl
  i5 := by kernel_rfl
  i9 := by kernel_rfl
  i20 := by kernel_rfl
  i37 := by kernel_rfl
  i46 := by kernel_rfl
  i51 := by kernel_rfl
  i53 := by kernel_rfl
  i171 := by kernel_rfl
  i173 := by kernel_rfl
  i212 := by kernel_rfl
  i232 := by kernel_rfl
  i233 := by kernel_rfl
  m17 := by kernel_rfl
  m18 := by kernel_rfl
  m19 := by kernel_rfl }
open Go.RowKit Go.Sort Go.Lib in
theorem Ybad.internal_strconv_AppendUint_10_small (B n u : Nat) (hu : u < 100) (sv : Value) (xs : List Value) (w : World) (hown : w.ownsRow B 5 1 sv n xs) (hBw : B ≤ w.heap.size) (hlim : n + 20 ≤ 140737488355328) :
    Calls Ybad.prog 21 #[sv, .int .u64 u, .int .i64 10] w fun e w' => ∃ v', e = .returned v' ∧ w'.ownsRow B 5 1 v' (n + (Lib.decDigits u).length) (xs ++ Lib.byteCells (Lib.decDigits u)) ∧ Below B w w' ∧ Lib.OthersKept 5 none w w' := Any.internal_strconv_AppendUint_10_small Ybad.laysM288 B n u hu sv xs w hown hBw hlim
open Go.RowKit Go.Sort Go.Lib in
def Ybad.laysPa41_ren : Go.Shelf.Ren := ⟨fun | 41 => 38 | n => n, fun | 3 => 3 | n => n, fun | n => n⟩
theorem Ybad.laysPa41 : Go.Proofs.Lays.p41 Ybad.prog Ybad.laysPa41_ren := {
  mixed := by kernel_rfl
  f41 := Ybad.func38.trans (congrArg some (by kernel_rfl))
  t3 := Ybad.underlying3
  a3 := Ybad.isAgg3
  z3 := Ybad.sizeOf3
  v3 := Ybad.zeroValue3 }
open Go.RowKit Go.Lib in
theorem Ybad.hex_EncodedLen (n : Int) (h0 : 0 ≤ n) (h1 : n < 4611686018427387904) (w : World) :
    Calls Ybad.prog 38 #[.int .i64 n] w fun e w' => e = .returned (.int .i64 (n * 2)) ∧ w' = w := Any.hex_EncodedLen Ybad.laysPa41 n h0 h1 w
open Go.RowKit Go.Lib in
theorem Ybad.hex_Encode (bd od nd cd N : Nat) (f : Nat → Value) (bs os n cs : Nat) (xs : List Int) (w : World) (hx : xs.length = n) (hr : ∀ i, i < n → 0 ≤ xs.getD i 0 ∧ xs.getD i 0 < 256) (hsrc : ∀ i, i < n → w.cell? ⟨bs, os + i, none⟩ = some (.int .u8 (xs.getD i 0))) (hrow : w.rowIs bd 5 N f) (hfit : od + nd ≤ N) (hlen : 2 * n ≤ nd) (hne : bd ≠ bs) (hbig : n ≤ 4611686018427387903) :
    Calls Ybad.prog 40 #[.slice (some ⟨bd, od, none⟩) nd cd, .slice (some ⟨bs, os, none⟩) n cs] w fun e w' => e = .returned (.int .i64 ((n : Int) * 2)) ∧ w'.rowIs bd 5 N (Hx.row f od (Lib.bytesOf xs) n) ∧ w.grownBy w' (some bd) := Any.hex_Encode Ybad.laysPa40 bd od nd cd N f bs os n cs xs w hx hr hsrc hrow hfit hlen hne hbig
open Go.RowKit Go.Lib in
theorem Ybad.hex_Encode_nil (dst : Value) (w : World) :
    Calls Ybad.prog 40 #[dst, .slice none 0 0] w fun e w' => e = .returned (.int .i64 0) ∧ w' = w := Any.hex_Encode_nil Ybad.laysPa40 dst w
def Ybad.sortL_ren : Go.Shelf.Ren := ⟨fun | 6 => 13 | 15 => 18 | 14 => 17 | 28 => 31 | 29 => 32 | 20 => 23 | 21 => 24 | 22 => 25 | 23 => 26 | 24 => 27 | 25 => 28 | 26 => 29 | 27 => 30 | 46 => 41 | 47 => 42 | 48 => 43 | 49 => 44 | 50 => 45 | 57 => 50 | n => n, fun | 22 => 49 | 24 => 32 | 25 => 52 | 3 => 3 | 39 => 48 | 0 => 0 | 53 => 70 | 55 => 29 | 4 => 4 | 46 => 63 | 45 => 62 | 50 => 67 | 5 => 5 | 9 => 9 | 66 => 81 | 70 => 85 | 76 => 91 | 77 => 92 | n => n, fun | n => n⟩
theorem Ybad.sortL : Go.Proofs.SlLaysF0.n6 Ybad.prog Ybad.sortL_ren := {
  mixed := by kernel_rfl
  f6 := ⟨Ybad.f13.name, by decide, Ybad.func13.trans (congrArg some (by kernel_rfl))⟩
  f14 := ⟨Ybad.f17.name, by decide, Ybad.func17.trans (congrArg some (by kernel_rfl))⟩
  f15 := Ybad.func18.trans (congrArg some (by kernel_rfl))
  f20 := ⟨Ybad.f23.name, by decide, Ybad.func23.trans (congrArg some (by kernel_rfl))⟩
  f21 := ⟨Ybad.f24.name, by decide, Ybad.func24.trans (congrArg some (by kernel_rfl))⟩
  f22 := ⟨Ybad.f25.name, by decide, Ybad.func25.trans (congrArg some (by kernel_rfl))⟩
  f23 := ⟨Ybad.f26.name, by decide, Ybad.func26.trans (congrArg some (by kernel_rfl))⟩
  f24 := ⟨Ybad.f27.name, by decide, Ybad.func27.trans (congrArg some (by kernel_rfl))⟩
  f25 := ⟨Ybad.f28.name, by decide, Ybad.func28.trans (congrArg some (by kernel_rfl))⟩
  f26 := ⟨Ybad.f29.name, by decide, Ybad.func29.trans (congrArg some (by kernel_rfl))⟩
  f27 := ⟨Ybad.f30.name, by decide, Ybad.func30.trans (congrArg some (by kernel_rfl))⟩
  f28 := Ybad.func31.trans (congrArg some (by kernel_rfl))
  f29 := Ybad.func32.trans (congrArg some (by kernel_rfl))
  f46 := ⟨Ybad.f41.name, by decide, Ybad.func41.trans (congrArg some (by kernel_rfl))⟩
  f47 := Ybad.func42.trans (congrArg some (by kernel_rfl))
  f48 := Ybad.func43.trans (congrArg some (by kernel_rfl))
  f49 := ⟨Ybad.f44.name, by decide, Ybad.func44.trans (congrArg some (by kernel_rfl))⟩
  f50 := ⟨Ybad.f45.name, by decide, Ybad.func45.trans (congrArg some (by kernel_rfl))⟩
  f57 := ⟨Ybad.f50.name, by decide, Ybad.func50.trans (congrArg some (by kernel_rfl))⟩
  t0 := Ybad.underlying0
  a0 := Ybad.isAgg0
  z0 := Ybad.sizeOf0
  v0 := Ybad.zeroValue0
  t3 := Ybad.underlying3
  a3 := Ybad.isAgg3
  z3 := Ybad.sizeOf3
  v3 := Ybad.zeroValue3
  t4 := Ybad.underlying4
  a4 := Ybad.isAgg4
  z4 := Ybad.sizeOf4
  v4 := Ybad.zeroValue4
  t5 := Ybad.underlying5
  a5 := Ybad.isAgg5
  z5 := Ybad.sizeOf5
  v5 := Ybad.zeroValue5
  t9 := Ybad.underlying9
  a9 := Ybad.isAgg9
  z9 := Ybad.sizeOf9
  v9 := Ybad.zeroValue9
  t22 := Ybad.underlying49
  a22 := Ybad.isAgg49
  z22 := Ybad.sizeOf49
  v22 := Ybad.zeroValue49
  t25 := Ybad.underlying52
  a25 := Ybad.isAgg52
  z25 := Ybad.sizeOf52
  v25 := Ybad.zeroValue52
  t39 := Ybad.underlying48
  a39 := Ybad.isAgg48
  z39 := Ybad.sizeOf48
  v39 := Ybad.zeroValue48
  t45 := Ybad.underlying62
  a45 := Ybad.isAgg62
  z45 := Ybad.sizeOf62
  v45 := Ybad.zeroValue62
  t46 := Ybad.underlying63
  a46 := Ybad.isAgg63
  z46 := Ybad.sizeOf63
  v46 := Ybad.zeroValue63
  t50 := Ybad.underlying67
  a50 := Ybad.isAgg67
  z50 := Ybad.sizeOf67
  v50 := Ybad.zeroValue67
  t53 := Ybad.underlying70
  a53 := Ybad.isAgg70
  z53 := Ybad.sizeOf70
  v53 := Ybad.zeroValue70
  t55 := Ybad.underlying29
  a55 := Ybad.isAgg29
  z55 := Ybad.sizeOf29
  v55 := Ybad.zeroValue29
  t66 := Ybad.underlying81
  a66 := Ybad.isAgg81
  z66 := Ybad.sizeOf81
  v66 := Ybad.zeroValue81
  t70 := Ybad.underlying85
  a70 := Ybad.isAgg85
  z70 := Ybad.sizeOf85
  v70 := Ybad.zeroValue85
  t76 := Ybad.underlying91
  a76 := Ybad.isAgg91
  z76 := Ybad.sizeOf91
  v76 := Ybad.zeroValue91
  t77 := Ybad.underlying92
  a77 := Ybad.isAgg92
  z77 := Ybad.sizeOf92
  v77 := Ybad.zeroValue92 }
end Go.Proofs
