/-
  DERIVED: THE SHELF's CONTRACTS AT THIS DUMP, IN PLAIN WORDS (tools/lay-plain.mjs out of 'Qxb6003622aShelf.lean', which tools/lay-shelf.mjs wrote): THE SAME DECLARATIONS UNDER THE SAME NAMES: 'import', 'namespace', 'open', 'def', 'theorem' AND NOTHING ELSE: no command of the shelf's: FOR A HAND-IN. Each laying: the table of numbers ('.._ren') and one theorem, a field a fact of the dump's own or the kernel's comparison; each contract: ONE APPLICATION.
-/
import Derived.Shelf.Strings.Search1
import Derived.Shelf.Bytes.SlIndexSmall
import Derived.Shelf.Bytes.SlIndexAt
import Derived.Shelf.Bytes.SlSearch0
import Derived.Shelf.Bytes.SlSearch1
import Derived.Shelf.Bytes.SlSearch2
import Derived.Shelf.Bytes.SlIndexWhole
import Derived.Shelf.LaysM
import Derived.Shelf.Bytes.SlSmallAll
import Derived.Shelf.Bytes.SlEqualAll
import Derived.Ground.SlbtProg
import Derived.Shelf.Bytes.SlCut
import Derived.Shelf.Bytes.Small
import Derived.Shelf.Bytes.IndexByte
import Derived.Test.Qxb6003622aProg
namespace Go.Proofs
open Go.Shelf
def Try.lays185_ren : Go.Shelf.Ren := ⟨fun | 185 => 18 | 187 => 20 | 115 => 21 | 253 => 22 | 224 => 23 | 254 => 24 | 255 => 25 | 291 => 26 | n => n, fun | 37 => 22 | 3 => 3 | 4 => 4 | 0 => 0 | 5 => 5 | 46 => 45 | 9 => 9 | 146 => 47 | 51 => 46 | n => n, fun | 1 => 0 | n => n⟩
theorem Try.lays185 : Go.Proofs.Lays.n185 Try.prog Try.lays185_ren := {
  mixed := by kernel_rfl
  f115 := Try.func21.trans (congrArg some (by kernel_rfl))
  f185 := Try.func18.trans (congrArg some (by kernel_rfl))
  f187 := Try.func20.trans (congrArg some (by kernel_rfl))
  f224 := Try.func23.trans (congrArg some (by kernel_rfl))
  f253 := Try.func22.trans (congrArg some (by kernel_rfl))
  f254 := Try.func24.trans (congrArg some (by kernel_rfl))
  f255 := Try.func25.trans (congrArg some (by kernel_rfl))
  f291 := Try.func26.trans (congrArg some (by kernel_rfl))
  t0 := Try.underlying0
  a0 := Try.isAgg0
  z0 := Try.sizeOf0
  v0 := Try.zeroValue0
  t3 := Try.underlying3
  a3 := Try.isAgg3
  z3 := Try.sizeOf3
  v3 := Try.zeroValue3
  t4 := Try.underlying4
  a4 := Try.isAgg4
  z4 := Try.sizeOf4
  v4 := Try.zeroValue4
  t5 := Try.underlying5
  a5 := Try.isAgg5
  z5 := Try.sizeOf5
  v5 := Try.zeroValue5
  t9 := Try.underlying9
  a9 := Try.isAgg9
  z9 := Try.sizeOf9
  v9 := Try.zeroValue9
  t37 := Try.underlying22
  a37 := Try.isAgg22
  z37 := Try.sizeOf22
  v37 := Try.zeroValue22
  t46 := Try.underlying45
  a46 := Try.isAgg45
  z46 := Try.sizeOf45
  v46 := Try.zeroValue45
  t51 := Try.underlying46
  a51 := Try.isAgg46
  z51 := Try.sizeOf46
  v51 := Try.zeroValue46
  t146 := Try.underlying47
  a146 := Try.isAgg47
  z146 := Try.sizeOf47
  v146 := Try.zeroValue47
  g1 := by kernel_rfl }
open Go.RowKit Go.Lib in
/-- The same where s is nil: -1. (LAID: no walk: one application.) -/
theorem Try.bytes_Index_one_nil (b2 o2 d : Nat) (cv : Int) (w : World) (hc2 : w.cell? ⟨b2, o2, none⟩ = some (.int .u8 cv)) :
    Calls Try.prog 18 #[.slice none 0 0, .slice (some ⟨b2, o2, none⟩) 1 d] w fun e w' => e = .returned (.int .i64 (-1)) ∧ w' = w := Any.bytes_Index_one_nil Try.lays185 b2 o2 d cv w hc2
def Try.lays187_ren : Go.Shelf.Ren := ⟨fun | 187 => 20 | 255 => 25 | n => n, fun | 37 => 22 | 5 => 5 | 3 => 3 | n => n, fun | n => n⟩
theorem Try.lays187 : Go.Proofs.Lays.n187 Try.prog Try.lays187_ren := {
  mixed := by kernel_rfl
  f187 := Try.func20.trans (congrArg some (by kernel_rfl))
  f255 := Try.func25.trans (congrArg some (by kernel_rfl))
  t3 := Try.underlying3
  a3 := Try.isAgg3
  z3 := Try.sizeOf3
  v3 := Try.zeroValue3
  t5 := Try.underlying5
  a5 := Try.isAgg5
  z5 := Try.sizeOf5
  v5 := Try.zeroValue5
  t37 := Try.underlying22
  a37 := Try.isAgg22
  z37 := Try.sizeOf22
  v37 := Try.zeroValue22 }
open Go.RowKit Go.Lib in
/-- bytes.Index at a separator of one byte, s at whatever address. (LAID: no walk: one application.) -/
theorem Try.bytes_Index_one_at (a : Addr) (n c b2 o2 d : Nat) (xs : List Int) (cv : Int) (w : World) (hx : xs.length = n) (hc : ∀ i, i < n → w.cell? (a.add i) = some (.int .u8 (xs.getD i 0))) (hc2 : w.cell? ⟨b2, o2, none⟩ = some (.int .u8 cv)) :
    Calls Try.prog 18 #[.slice (some a) n c, .slice (some ⟨b2, o2, none⟩) 1 d] w fun e w' => e = .returned (.int .i64 (Lib.indexByte (Lib.bytesOf xs) cv.toNat.toUInt8)) ∧ w' = w := Any.bytes_Index_one_at Try.lays185 a n c b2 o2 d xs cv w hx hc hc2
def Try.laysnb116_ren : Go.Shelf.Ren := ⟨fun | 116 => 19 | 115 => 21 | n => n, fun | 37 => 22 | 4 => 4 | 3 => 3 | 9 => 9 | 5 => 5 | n => n, fun | n => n⟩
theorem Try.laysnb116 : Go.Proofs.Lays.nb116 Try.prog Try.laysnb116_ren := {
  mixed := by kernel_rfl
  f115 := Try.func21.trans (congrArg some (by kernel_rfl))
  f116 := Try.func19.trans (congrArg some (by kernel_rfl))
  t3 := Try.underlying3
  a3 := Try.isAgg3
  z3 := Try.sizeOf3
  v3 := Try.zeroValue3
  t4 := Try.underlying4
  a4 := Try.isAgg4
  z4 := Try.sizeOf4
  v4 := Try.zeroValue4
  t9 := Try.underlying9
  a9 := Try.isAgg9
  z9 := Try.sizeOf9
  v9 := Try.zeroValue9
  t37 := Try.underlying22
  a37 := Try.isAgg22
  z37 := Try.sizeOf22
  v37 := Try.zeroValue22
  t5 := Try.underlying5
  a5 := Try.isAgg5
  z5 := Try.sizeOf5
  v5 := Try.zeroValue5 }
def Try.laysnb139_ren : Go.Shelf.Ren := ⟨fun | 139 => 17 | 116 => 19 | 115 => 21 | n => n, fun | 37 => 22 | 4 => 4 | 3 => 3 | 9 => 9 | 5 => 5 | n => n, fun | n => n⟩
theorem Try.laysnb139 : Go.Proofs.Lays.nb139 Try.prog Try.laysnb139_ren := {
  mixed := by kernel_rfl
  f115 := Try.func21.trans (congrArg some (by kernel_rfl))
  f116 := Try.func19.trans (congrArg some (by kernel_rfl))
  f139 := Try.func17.trans (congrArg some (by kernel_rfl))
  t3 := Try.underlying3
  a3 := Try.isAgg3
  z3 := Try.sizeOf3
  v3 := Try.zeroValue3
  t4 := Try.underlying4
  a4 := Try.isAgg4
  z4 := Try.sizeOf4
  v4 := Try.zeroValue4
  t9 := Try.underlying9
  a9 := Try.isAgg9
  z9 := Try.sizeOf9
  v9 := Try.zeroValue9
  t37 := Try.underlying22
  a37 := Try.isAgg22
  z37 := Try.sizeOf22
  v37 := Try.zeroValue22
  t5 := Try.underlying5
  a5 := Try.isAgg5
  z5 := Try.sizeOf5
  v5 := Try.zeroValue5 }
/-- bytes.TrimPrefix: WHOLE. (LAID: no walk: one application.) -/
theorem Try.bytes_TrimPrefix_all (p1 p2 : Option Addr) (n c m d : Nat) (xs ys : List Int) (w : World) (hx : xs.length = n) (hy : ys.length = m) (hnc : n ≤ c) (h1 : Lib.BytesIn w p1 n xs) (h2 : Lib.BytesIn w p2 m ys) :
    Calls Try.prog 17 #[.slice p1 n c, .slice p2 m d] w fun e w' => e = .returned (Lib.trimPrefixV p1 n c xs ys) ∧ w' = w := Any.bytes_TrimPrefix_all Try.laysnb139 p1 p2 n c m d xs ys w hx hy hnc h1 h2
def Try.laysSlT4_ren : Go.Shelf.Ren := ⟨fun | 4 => 16 | 5 => 18 | 6 => 20 | 7 => 21 | 8 => 22 | 9 => 23 | 10 => 24 | 11 => 25 | 12 => 26 | n => n, fun | 22 => 22 | 4 => 4 | 3 => 3 | 0 => 0 | 5 => 5 | 29 => 45 | 9 => 9 | 31 => 47 | 30 => 46 | n => n, fun | 0 => 0 | n => n⟩
theorem Try.laysSlT4 : Go.Proofs.SlLaysT.n4 Try.prog Try.laysSlT4_ren := {
  mixed := by kernel_rfl
  f4 := Try.func16.trans (congrArg some (by kernel_rfl))
  f5 := Try.func18.trans (congrArg some (by kernel_rfl))
  f6 := Try.func20.trans (congrArg some (by kernel_rfl))
  f7 := Try.func21.trans (congrArg some (by kernel_rfl))
  f8 := Try.func22.trans (congrArg some (by kernel_rfl))
  f9 := Try.func23.trans (congrArg some (by kernel_rfl))
  f10 := Try.func24.trans (congrArg some (by kernel_rfl))
  f11 := Try.func25.trans (congrArg some (by kernel_rfl))
  f12 := Try.func26.trans (congrArg some (by kernel_rfl))
  t0 := Try.underlying0
  a0 := Try.isAgg0
  z0 := Try.sizeOf0
  v0 := Try.zeroValue0
  t3 := Try.underlying3
  a3 := Try.isAgg3
  z3 := Try.sizeOf3
  v3 := Try.zeroValue3
  t4 := Try.underlying4
  a4 := Try.isAgg4
  z4 := Try.sizeOf4
  v4 := Try.zeroValue4
  t5 := Try.underlying5
  a5 := Try.isAgg5
  z5 := Try.sizeOf5
  v5 := Try.zeroValue5
  t9 := Try.underlying9
  a9 := Try.isAgg9
  z9 := Try.sizeOf9
  v9 := Try.zeroValue9
  t22 := Try.underlying22
  a22 := Try.isAgg22
  z22 := Try.sizeOf22
  v22 := Try.zeroValue22
  t29 := Try.underlying45
  a29 := Try.isAgg45
  z29 := Try.sizeOf45
  v29 := Try.zeroValue45
  t30 := Try.underlying46
  a30 := Try.isAgg46
  z30 := Try.sizeOf46
  v30 := Try.zeroValue46
  t31 := Try.underlying47
  a31 := Try.isAgg47
  z31 := Try.sizeOf47
  v31 := Try.zeroValue47
  g0 := by kernel_rfl }
/-- THE WALK, bytes.Index's answer a premise: whatever the two slices' addresses. (LAID: no walk: one application.) -/
theorem Try.bytes_Cut_of (p1 p2 : Option Addr) (n c1 k c2 : Nat) (i : Int) (w : World) (hcap : n ≤ c1) (hlo : -1 ≤ i) (hroom : 0 ≤ i → i + k ≤ n) (hn : n ≤ 4611686018427387904) (hidx : Calls Try.prog 18 #[.slice p1 n c1, .slice p2 k c2] w fun e w' => e = .returned (.int .i64 i) ∧ ∃ q, w' = w.drewN q) :
    Calls Try.prog 16 #[.slice p1 n c1, .slice p2 k c2] w fun e w' => e = .returned (Lib.cutV p1 n c1 k i) ∧ ∃ q, w' = w.drewN q := Any.bytes_Cut_of Try.laysSlT4 p1 p2 n c1 k c2 i w hcap hlo hroom hn hidx
end Go.Proofs
