import Derived.Shelf.Small.Utf8
import Derived.Shelf.Small.Strs
import Derived.Shelf.Small.Wraps
import Derived.Shelf.Strings.Search1
import Derived.Shelf.Strings.Search2
import Derived.Shelf.Strings.Search3
import Derived.Shelf.Strings.Cut
import Derived.Shelf.LaysM
import Derived.Shelf.Strings.Shaped
import Derived.Shelf.Strings.Prefix
import Derived.Shelf.Strings.Runes
import Derived.Shelf.Strings.IndexAny
import Derived.Shelf.Strings.AsciiSet
import Derived.Shelf.Strings.IndexAnyAll
import Derived.Test.Qxb6602100aProg
namespace Go.Proofs
open Go.Shelf
def Try.lays119_ren : Go.Shelf.Ren := ⟨fun | 119 => 58 | n => n, fun | 21 => 21 | 4 => 4 | n => n, fun | n => n⟩
theorem Try.lays119 : Go.Proofs.Lays.n119 Try.prog Try.lays119_ren := {
  mixed := by kernel_rfl
  f119 := Try.func58.trans (congrArg some (by kernel_rfl))
  t4 := Try.underlying4
  a4 := Try.isAgg4
  z4 := Try.sizeOf4
  v4 := Try.zeroValue4
  t21 := Try.underlying21
  a21 := Try.isAgg21
  z21 := Try.sizeOf21
  v21 := Try.zeroValue21 }
theorem Try.utf8_ValidRune (r : Int) (w : World) :
    Calls Try.prog 58 #[.int .i32 r] w fun e w' => e = .returned (.bool (Lib.validRune r)) ∧ w' = w := Any.utf8_ValidRune Try.lays119 r w
def Try.lays137_ren : Go.Shelf.Ren := ⟨fun | 137 => 39 | 217 => 51 | 266 => 59 | n => n, fun | 9 => 9 | 5 => 5 | 3 => 3 | n => n, fun | n => n⟩
theorem Try.lays137 : Go.Proofs.Lays.n137 Try.prog Try.lays137_ren := {
  mixed := by kernel_rfl
  f137 := Try.func39.trans (congrArg some (by kernel_rfl))
  f217 := Try.func51.trans (congrArg some (by kernel_rfl))
  f266 := Try.func59.trans (congrArg some (by kernel_rfl))
  t3 := Try.underlying3
  a3 := Try.isAgg3
  z3 := Try.sizeOf3
  v3 := Try.zeroValue3
  t5 := Try.underlying5
  a5 := Try.isAgg5
  z5 := Try.sizeOf5
  v5 := Try.zeroValue5
  t9 := Try.underlying9
  a9 := Try.isAgg9
  z9 := Try.sizeOf9
  v9 := Try.zeroValue9 }
open Go.RowKit in
theorem Try.strings_IndexByte (s : ByteArray) (c : Int) (w : World) :
    Calls Try.prog 39 #[.string s, .int .u8 c] w fun e w' => e = .returned (.int .i64 (Lib.indexByte s.data.toList c.toNat.toUInt8)) ∧ w' = w := Any.strings_IndexByte Try.lays137 s c w
def Try.lays210_ren : Go.Shelf.Ren := ⟨fun | 210 => 53 | 206 => 46 | n => n, fun | 9 => 9 | 4 => 4 | 3 => 3 | n => n, fun | n => n⟩
theorem Try.lays210 : Go.Proofs.Lays.n210 Try.prog Try.lays210_ren := {
  mixed := by kernel_rfl
  f206 := Try.func46.trans (congrArg some (by kernel_rfl))
  f210 := Try.func53.trans (congrArg some (by kernel_rfl))
  t3 := Try.underlying3
  a3 := Try.isAgg3
  z3 := Try.sizeOf3
  v3 := Try.zeroValue3
  t4 := Try.underlying4
  a4 := Try.isAgg4
  z4 := Try.sizeOf4
  v4 := Try.zeroValue4
  t9 := Try.underlying9
  a9 := Try.isAgg9
  z9 := Try.sizeOf9
  v9 := Try.zeroValue9 }
open Go.RowKit in
theorem Try.stringslite_CutPrefix (s p : ByteArray) (w : World) :
    Calls Try.prog 53 #[.string s, .string p] w fun e w' => e = .returned (.tuple #[.string ⟨(Lib.trimPrefix s.data.toList p.data.toList).toArray⟩, .bool (Lib.hasPrefix s.data.toList p.data.toList)]) ∧ w' = w := Any.stringslite_CutPrefix Try.lays210 s p w
def Try.lays103_ren : Go.Shelf.Ren := ⟨fun | 103 => 43 | 210 => 53 | 206 => 46 | n => n, fun | 9 => 9 | 4 => 4 | 24 => 41 | 3 => 3 | n => n, fun | n => n⟩
theorem Try.lays103 : Go.Proofs.Lays.n103 Try.prog Try.lays103_ren := {
  mixed := by kernel_rfl
  f103 := Try.func43.trans (congrArg some (by kernel_rfl))
  f206 := Try.func46.trans (congrArg some (by kernel_rfl))
  f210 := Try.func53.trans (congrArg some (by kernel_rfl))
  t3 := Try.underlying3
  a3 := Try.isAgg3
  z3 := Try.sizeOf3
  v3 := Try.zeroValue3
  t4 := Try.underlying4
  a4 := Try.isAgg4
  z4 := Try.sizeOf4
  v4 := Try.zeroValue4
  t9 := Try.underlying9
  a9 := Try.isAgg9
  z9 := Try.sizeOf9
  v9 := Try.zeroValue9
  t24 := Try.underlying41
  a24 := Try.isAgg41
  z24 := Try.sizeOf41
  v24 := Try.zeroValue41 }
open Go.RowKit in
theorem Try.strings_CutPrefix (s p : ByteArray) (w : World) :
    Calls Try.prog 43 #[.string s, .string p] w fun e w' => e = .returned (.tuple #[.string ⟨(Lib.trimPrefix s.data.toList p.data.toList).toArray⟩, .bool (Lib.hasPrefix s.data.toList p.data.toList)]) ∧ w' = w := Any.strings_CutPrefix Try.lays103 s p w
def Try.lays217_ren : Go.Shelf.Ren := ⟨fun | 217 => 51 | 266 => 59 | n => n, fun | 9 => 9 | 5 => 5 | 3 => 3 | n => n, fun | n => n⟩
theorem Try.lays217 : Go.Proofs.Lays.n217 Try.prog Try.lays217_ren := {
  mixed := by kernel_rfl
  f217 := Try.func51.trans (congrArg some (by kernel_rfl))
  f266 := Try.func59.trans (congrArg some (by kernel_rfl))
  t3 := Try.underlying3
  a3 := Try.isAgg3
  z3 := Try.sizeOf3
  v3 := Try.zeroValue3
  t5 := Try.underlying5
  a5 := Try.isAgg5
  z5 := Try.sizeOf5
  v5 := Try.zeroValue5
  t9 := Try.underlying9
  a9 := Try.isAgg9
  z9 := Try.sizeOf9
  v9 := Try.zeroValue9 }
open Go.RowKit Go.Lib in
theorem Try.stringslite_IndexByte (s : ByteArray) (c : Int) (w : World) :
    Calls Try.prog 51 #[.string s, .int .u8 c] w fun e w' => e = .returned (.int .i64 (Lib.indexByte s.data.toList c.toNat.toUInt8)) ∧ w' = w := Any.stringslite_IndexByte Try.lays217 s c w
def Try.lays224_ren : Go.Shelf.Ren := ⟨fun | 224 => 56 | n => n, fun | 3 => 3 | n => n, fun | n => n⟩
theorem Try.lays224 : Go.Proofs.Lays.n224 Try.prog Try.lays224_ren := {
  mixed := by kernel_rfl
  f224 := Try.func56.trans (congrArg some (by kernel_rfl))
  t3 := Try.underlying3
  a3 := Try.isAgg3
  z3 := Try.sizeOf3
  v3 := Try.zeroValue3 }
open Go.RowKit Go.Lib in
theorem Try.bytealg_Cutover (n : Int) (h0 : 0 ≤ n) (h1 : n < 4611686018427387904) (w : World) :
    Calls Try.prog 56 #[.int .i64 n] w fun e w' => e = .returned (.int .i64 ((n + 16) / 8)) ∧ w' = w := Any.bytealg_Cutover Try.lays224 n h0 h1 w
def Try.lays314_ren : Go.Shelf.Ren := ⟨fun | 314 => 60 | n => n, fun | 9 => 9 | 51 => 53 | 3 => 3 | 4 => 4 | 5 => 5 | 46 => 40 | n => n, fun | n => n⟩
theorem Try.lays314 : Go.Proofs.Lays.n314 Try.prog Try.lays314_ren := {
  mixed := by kernel_rfl
  f314 := Try.func60.trans (congrArg some (by kernel_rfl))
  t3 := Try.underlying3
  a3 := Try.isAgg3
  z3 := Try.sizeOf3
  v3 := Try.zeroValue3
  t4 := Try.underlying4
  a4 := Try.isAgg4
  z4 := Try.sizeOf4
  v4 := Try.zeroValue4
  t5 := Try.underlying5
  a5 := Try.isAgg5
  z5 := Try.sizeOf5
  v5 := Try.zeroValue5
  t9 := Try.underlying9
  a9 := Try.isAgg9
  z9 := Try.sizeOf9
  v9 := Try.zeroValue9
  t46 := Try.underlying40
  a46 := Try.isAgg40
  z46 := Try.sizeOf40
  v46 := Try.zeroValue40
  t51 := Try.underlying53
  a51 := Try.isAgg53
  z51 := Try.sizeOf53
  v51 := Try.zeroValue53 }
open Go.RowKit Go.Lib in
theorem Try.bytealg_hashStr (sep : ByteArray) (hs : sep.size < 4294967281) (w : World) :
    Calls Try.prog 60 #[.string sep] w fun e w' => e = .returned (.tuple #[.int .u32 (RK.H sep.data.toList % 4294967296), .int .u32 (16777619 ^ sep.size % 4294967296)]) ∧ w' = w := Any.bytealg_hashStr Try.lays314 sep hs w
def Try.lays267_ren : Go.Shelf.Ren := ⟨fun | 267 => 57 | 314 => 60 | n => n, fun | 9 => 9 | 3 => 3 | 146 => 54 | 51 => 53 | 4 => 4 | 5 => 5 | 46 => 40 | n => n, fun | n => n⟩
theorem Try.lays267 : Go.Proofs.Lays.n267 Try.prog Try.lays267_ren := {
  mixed := by kernel_rfl
  f267 := Try.func57.trans (congrArg some (by kernel_rfl))
  f314 := Try.func60.trans (congrArg some (by kernel_rfl))
  t3 := Try.underlying3
  a3 := Try.isAgg3
  z3 := Try.sizeOf3
  v3 := Try.zeroValue3
  t4 := Try.underlying4
  a4 := Try.isAgg4
  z4 := Try.sizeOf4
  v4 := Try.zeroValue4
  t5 := Try.underlying5
  a5 := Try.isAgg5
  z5 := Try.sizeOf5
  v5 := Try.zeroValue5
  t9 := Try.underlying9
  a9 := Try.isAgg9
  z9 := Try.sizeOf9
  v9 := Try.zeroValue9
  t46 := Try.underlying40
  a46 := Try.isAgg40
  z46 := Try.sizeOf40
  v46 := Try.zeroValue40
  t51 := Try.underlying53
  a51 := Try.isAgg53
  z51 := Try.sizeOf53
  v51 := Try.zeroValue53
  t146 := Try.underlying54
  a146 := Try.isAgg54
  z146 := Try.sizeOf54
  v146 := Try.zeroValue54 }
open Go.RowKit Go.Lib in
theorem Try.bytealg_IndexRabinKarp (s sep : ByteArray) (h1 : 1 ≤ sep.size) (h2 : sep.size ≤ s.size) (hs : s.size < 4294967281) (w : World) :
    Calls Try.prog 57 #[.string s, .string sep] w fun e w' => e = .returned (.int .i64 (Lib.index s.data.toList sep.data.toList)) ∧ w' = w := Any.bytealg_IndexRabinKarp Try.lays267 s sep h1 h2 hs w
def Try.lays219_ren : Go.Shelf.Ren := ⟨fun | 219 => 45 | 217 => 51 | 225 => 55 | 224 => 56 | 267 => 57 | 266 => 59 | 314 => 60 | n => n, fun | 9 => 9 | 3 => 3 | 4 => 4 | 5 => 5 | 46 => 40 | 146 => 54 | 51 => 53 | n => n, fun | 1 => 0 | n => n⟩
theorem Try.lays219 : Go.Proofs.Lays.n219 Try.prog Try.lays219_ren := {
  mixed := by kernel_rfl
  f217 := Try.func51.trans (congrArg some (by kernel_rfl))
  f219 := Try.func45.trans (congrArg some (by kernel_rfl))
  f224 := Try.func56.trans (congrArg some (by kernel_rfl))
  f225 := Try.func55.trans (congrArg some (by kernel_rfl))
  f266 := Try.func59.trans (congrArg some (by kernel_rfl))
  f267 := Try.func57.trans (congrArg some (by kernel_rfl))
  f314 := Try.func60.trans (congrArg some (by kernel_rfl))
  t3 := Try.underlying3
  a3 := Try.isAgg3
  z3 := Try.sizeOf3
  v3 := Try.zeroValue3
  t4 := Try.underlying4
  a4 := Try.isAgg4
  z4 := Try.sizeOf4
  v4 := Try.zeroValue4
  t5 := Try.underlying5
  a5 := Try.isAgg5
  z5 := Try.sizeOf5
  v5 := Try.zeroValue5
  t9 := Try.underlying9
  a9 := Try.isAgg9
  z9 := Try.sizeOf9
  v9 := Try.zeroValue9
  t46 := Try.underlying40
  a46 := Try.isAgg40
  z46 := Try.sizeOf40
  v46 := Try.zeroValue40
  t51 := Try.underlying53
  a51 := Try.isAgg53
  z51 := Try.sizeOf53
  v51 := Try.zeroValue53
  t146 := Try.underlying54
  a146 := Try.isAgg54
  z146 := Try.sizeOf54
  v146 := Try.zeroValue54
  g1 := by kernel_rfl }
open Go.RowKit Go.Lib in
theorem Try.stringslite_Index_one (s : ByteArray) (c : UInt8) (w : World) :
    Calls Try.prog 45 #[.string s, .string ⟨#[c]⟩] w fun e w' => e = .returned (.int .i64 (Lib.indexByte s.data.toList c)) ∧ w' = w := Any.stringslite_Index_one Try.lays219 s c w
open Go.RowKit Go.Lib in
theorem Try.stringslite_Index (s sub : ByteArray) (m : Int) (w : World) (hs : s.size < 4294967281) (hm : w.cell? ⟨0, 0, none⟩ = some (.int .i64 m)) :
    Calls Try.prog 45 #[.string s, .string sub] w fun e w' => e = .returned (.int .i64 (Lib.index s.data.toList sub.data.toList)) ∧ w' = w := Any.stringslite_Index Try.lays219 s sub m w hs hm
def Try.lays143_ren : Go.Shelf.Ren := ⟨fun | 143 => 35 | 219 => 45 | 217 => 51 | 225 => 55 | 224 => 56 | 267 => 57 | 266 => 59 | 314 => 60 | n => n, fun | 9 => 9 | 3 => 3 | 4 => 4 | 5 => 5 | 46 => 40 | 146 => 54 | 51 => 53 | n => n, fun | 1 => 0 | n => n⟩
theorem Try.lays143 : Go.Proofs.Lays.n143 Try.prog Try.lays143_ren := {
  mixed := by kernel_rfl
  f143 := Try.func35.trans (congrArg some (by kernel_rfl))
  f217 := Try.func51.trans (congrArg some (by kernel_rfl))
  f219 := Try.func45.trans (congrArg some (by kernel_rfl))
  f224 := Try.func56.trans (congrArg some (by kernel_rfl))
  f225 := Try.func55.trans (congrArg some (by kernel_rfl))
  f266 := Try.func59.trans (congrArg some (by kernel_rfl))
  f267 := Try.func57.trans (congrArg some (by kernel_rfl))
  f314 := Try.func60.trans (congrArg some (by kernel_rfl))
  t3 := Try.underlying3
  a3 := Try.isAgg3
  z3 := Try.sizeOf3
  v3 := Try.zeroValue3
  t4 := Try.underlying4
  a4 := Try.isAgg4
  z4 := Try.sizeOf4
  v4 := Try.zeroValue4
  t5 := Try.underlying5
  a5 := Try.isAgg5
  z5 := Try.sizeOf5
  v5 := Try.zeroValue5
  t9 := Try.underlying9
  a9 := Try.isAgg9
  z9 := Try.sizeOf9
  v9 := Try.zeroValue9
  t46 := Try.underlying40
  a46 := Try.isAgg40
  z46 := Try.sizeOf40
  v46 := Try.zeroValue40
  t51 := Try.underlying53
  a51 := Try.isAgg53
  z51 := Try.sizeOf53
  v51 := Try.zeroValue53
  t146 := Try.underlying54
  a146 := Try.isAgg54
  z146 := Try.sizeOf54
  v146 := Try.zeroValue54
  g1 := by kernel_rfl }
open Go.RowKit Go.Lib in
theorem Try.strings_Index_one (s : ByteArray) (c : UInt8) (w : World) :
    Calls Try.prog 35 #[.string s, .string ⟨#[c]⟩] w fun e w' => e = .returned (.int .i64 (Lib.indexByte s.data.toList c)) ∧ w' = w := Any.strings_Index_one Try.lays143 s c w
open Go.RowKit Go.Lib in
theorem Try.strings_Index (s sub : ByteArray) (m : Int) (w : World) (hs : s.size < 4294967281) (hm : w.cell? ⟨0, 0, none⟩ = some (.int .i64 m)) :
    Calls Try.prog 35 #[.string s, .string sub] w fun e w' => e = .returned (.int .i64 (Lib.index s.data.toList sub.data.toList)) ∧ w' = w := Any.strings_Index Try.lays143 s sub m w hs hm
def Try.lays220_ren : Go.Shelf.Ren := ⟨fun | 220 => 54 | 219 => 45 | 217 => 51 | 225 => 55 | 224 => 56 | 267 => 57 | 266 => 59 | 314 => 60 | n => n, fun | 9 => 9 | 4 => 4 | 3 => 3 | 5 => 5 | 46 => 40 | 146 => 54 | 51 => 53 | n => n, fun | 1 => 0 | n => n⟩
theorem Try.lays220 : Go.Proofs.Lays.n220 Try.prog Try.lays220_ren := {
  mixed := by kernel_rfl
  f217 := Try.func51.trans (congrArg some (by kernel_rfl))
  f219 := Try.func45.trans (congrArg some (by kernel_rfl))
  f220 := Try.func54.trans (congrArg some (by kernel_rfl))
  f224 := Try.func56.trans (congrArg some (by kernel_rfl))
  f225 := Try.func55.trans (congrArg some (by kernel_rfl))
  f266 := Try.func59.trans (congrArg some (by kernel_rfl))
  f267 := Try.func57.trans (congrArg some (by kernel_rfl))
  f314 := Try.func60.trans (congrArg some (by kernel_rfl))
  t3 := Try.underlying3
  a3 := Try.isAgg3
  z3 := Try.sizeOf3
  v3 := Try.zeroValue3
  t4 := Try.underlying4
  a4 := Try.isAgg4
  z4 := Try.sizeOf4
  v4 := Try.zeroValue4
  t5 := Try.underlying5
  a5 := Try.isAgg5
  z5 := Try.sizeOf5
  v5 := Try.zeroValue5
  t9 := Try.underlying9
  a9 := Try.isAgg9
  z9 := Try.sizeOf9
  v9 := Try.zeroValue9
  t46 := Try.underlying40
  a46 := Try.isAgg40
  z46 := Try.sizeOf40
  v46 := Try.zeroValue40
  t51 := Try.underlying53
  a51 := Try.isAgg53
  z51 := Try.sizeOf53
  v51 := Try.zeroValue53
  t146 := Try.underlying54
  a146 := Try.isAgg54
  z146 := Try.sizeOf54
  v146 := Try.zeroValue54
  g1 := by kernel_rfl }
open Go.RowKit Go.Lib in
theorem Try.stringslite_Cut (s sep : ByteArray) (m : Int) (w : World) (hs : s.size < 4294967281) (hm : w.cell? ⟨0, 0, none⟩ = some (.int .i64 m)) :
    Calls Try.prog 54 #[.string s, .string sep] w fun e w' => e = .returned (.tuple #[.string ⟨(Lib.cut s.data.toList sep.data.toList).1.toArray⟩, .string ⟨(Lib.cut s.data.toList sep.data.toList).2.1.toArray⟩, .bool (Lib.cut s.data.toList sep.data.toList).2.2]) ∧ ∃ n, w' = w.drewN n := Any.stringslite_Cut Try.lays220 s sep m w hs hm
def Try.lays145_ren : Go.Shelf.Ren := ⟨fun | 145 => 44 | 220 => 54 | 219 => 45 | 217 => 51 | 225 => 55 | 224 => 56 | 267 => 57 | 266 => 59 | 314 => 60 | n => n, fun | 9 => 9 | 4 => 4 | 59 => 25 | 3 => 3 | 5 => 5 | 46 => 40 | 146 => 54 | 51 => 53 | n => n, fun | 1 => 0 | n => n⟩
theorem Try.lays145 : Go.Proofs.Lays.n145 Try.prog Try.lays145_ren := {
  mixed := by kernel_rfl
  f145 := Try.func44.trans (congrArg some (by kernel_rfl))
  f217 := Try.func51.trans (congrArg some (by kernel_rfl))
  f219 := Try.func45.trans (congrArg some (by kernel_rfl))
  f220 := Try.func54.trans (congrArg some (by kernel_rfl))
  f224 := Try.func56.trans (congrArg some (by kernel_rfl))
  f225 := Try.func55.trans (congrArg some (by kernel_rfl))
  f266 := Try.func59.trans (congrArg some (by kernel_rfl))
  f267 := Try.func57.trans (congrArg some (by kernel_rfl))
  f314 := Try.func60.trans (congrArg some (by kernel_rfl))
  t3 := Try.underlying3
  a3 := Try.isAgg3
  z3 := Try.sizeOf3
  v3 := Try.zeroValue3
  t4 := Try.underlying4
  a4 := Try.isAgg4
  z4 := Try.sizeOf4
  v4 := Try.zeroValue4
  t5 := Try.underlying5
  a5 := Try.isAgg5
  z5 := Try.sizeOf5
  v5 := Try.zeroValue5
  t9 := Try.underlying9
  a9 := Try.isAgg9
  z9 := Try.sizeOf9
  v9 := Try.zeroValue9
  t46 := Try.underlying40
  a46 := Try.isAgg40
  z46 := Try.sizeOf40
  v46 := Try.zeroValue40
  t51 := Try.underlying53
  a51 := Try.isAgg53
  z51 := Try.sizeOf53
  v51 := Try.zeroValue53
  t59 := Try.underlying25
  a59 := Try.isAgg25
  z59 := Try.sizeOf25
  v59 := Try.zeroValue25
  t146 := Try.underlying54
  a146 := Try.isAgg54
  z146 := Try.sizeOf54
  v146 := Try.zeroValue54
  g1 := by kernel_rfl }
open Go.RowKit Go.Lib in
theorem Try.strings_Cut (s sep : ByteArray) (m : Int) (w : World) (hs : s.size < 4294967281) (hm : w.cell? ⟨0, 0, none⟩ = some (.int .i64 m)) :
    Calls Try.prog 44 #[.string s, .string sep] w fun e w' => e = .returned (.tuple #[.string ⟨(Lib.cut s.data.toList sep.data.toList).1.toArray⟩, .string ⟨(Lib.cut s.data.toList sep.data.toList).2.1.toArray⟩, .bool (Lib.cut s.data.toList sep.data.toList).2.2]) ∧ ∃ n, w' = w.drewN n := Any.strings_Cut Try.lays145 s sep m w hs hm
def Try.laysM219_ren : Go.Shelf.Ren := ⟨fun | 219 => 45 | 217 => 51 | 225 => 55 | 224 => 56 | 267 => 57 | 266 => 59 | 314 => 60 | n => n, fun | 9 => 9 | 3 => 3 | 4 => 4 | 5 => 5 | 46 => 40 | 146 => 54 | 51 => 53 | n => n, fun | 1 => 0 | n => n⟩
theorem Try.laysM219 : Go.Proofs.LaysM.n219 Try.prog Try.laysM219_ren := {
  mixed := by kernel_rfl
  f217 := Try.func51.trans (congrArg some (by kernel_rfl))
  f219 := Try.func45.trans (congrArg some (by kernel_rfl))
  f224 := Try.func56.trans (congrArg some (by kernel_rfl))
  f225 := Try.func55.trans (congrArg some (by kernel_rfl))
  f266 := Try.func59.trans (congrArg some (by kernel_rfl))
  f267 := Try.func57.trans (congrArg some (by kernel_rfl))
  f314 := Try.func60.trans (congrArg some (by kernel_rfl))
  t3 := Try.underlying3
  a3 := Try.isAgg3
  z3 := Try.sizeOf3
  v3 := Try.zeroValue3
  t4 := Try.underlying4
  a4 := Try.isAgg4
  z4 := Try.sizeOf4
  v4 := Try.zeroValue4
  t5 := Try.underlying5
  a5 := Try.isAgg5
  z5 := Try.sizeOf5
  v5 := Try.zeroValue5
  t9 := Try.underlying9
  a9 := Try.isAgg9
  z9 := Try.sizeOf9
  v9 := Try.zeroValue9
  t46 := Try.underlying40
  a46 := Try.isAgg40
  z46 := Try.sizeOf40
  v46 := Try.zeroValue40
  t51 := Try.underlying53
  a51 := Try.isAgg53
  z51 := Try.sizeOf53
  v51 := Try.zeroValue53
  t146 := Try.underlying54
  a146 := Try.isAgg54
  z146 := Try.sizeOf54
  v146 := Try.zeroValue54
  g1 := by kernel_rfl
  i3 := by kernel_rfl
  i4 := by kernel_rfl
  i5 := by kernel_rfl
  i9 := by kernel_rfl
  i46 := by kernel_rfl
  i51 := by kernel_rfl
  i146 := by kernel_rfl
  m1 := by kernel_rfl
  s1_3 := fun w h => Go.Proofs.cell_of_shapedOpen_int (zero := #[.int .i64 0]) (t := 3) h (of_decide_eq_true (by kernel_rfl)) (by kernel_rfl) rfl (by kernel_rfl) (by kernel_rfl) Try.underlying3 }
open Go.RowKit Go.Lib in
theorem Try.stringslite_Index_shaped (s sub : ByteArray) (w : World) (h : w.ShapedOpen Try.prog) (hs : s.size < 4294967281) :
    Calls Try.prog 45 #[.string s, .string sub] w fun e w' => e = .returned (.int .i64 (Lib.index s.data.toList sub.data.toList)) ∧ w' = w := Any.stringslite_Index_shaped Try.laysM219 s sub w h hs
def Try.laysM143_ren : Go.Shelf.Ren := ⟨fun | 143 => 35 | 219 => 45 | 217 => 51 | 225 => 55 | 224 => 56 | 267 => 57 | 266 => 59 | 314 => 60 | n => n, fun | 9 => 9 | 3 => 3 | 4 => 4 | 5 => 5 | 46 => 40 | 146 => 54 | 51 => 53 | n => n, fun | 1 => 0 | n => n⟩
theorem Try.laysM143 : Go.Proofs.LaysM.n143 Try.prog Try.laysM143_ren := {
  mixed := by kernel_rfl
  f143 := Try.func35.trans (congrArg some (by kernel_rfl))
  f217 := Try.func51.trans (congrArg some (by kernel_rfl))
  f219 := Try.func45.trans (congrArg some (by kernel_rfl))
  f224 := Try.func56.trans (congrArg some (by kernel_rfl))
  f225 := Try.func55.trans (congrArg some (by kernel_rfl))
  f266 := Try.func59.trans (congrArg some (by kernel_rfl))
  f267 := Try.func57.trans (congrArg some (by kernel_rfl))
  f314 := Try.func60.trans (congrArg some (by kernel_rfl))
  t3 := Try.underlying3
  a3 := Try.isAgg3
  z3 := Try.sizeOf3
  v3 := Try.zeroValue3
  t4 := Try.underlying4
  a4 := Try.isAgg4
  z4 := Try.sizeOf4
  v4 := Try.zeroValue4
  t5 := Try.underlying5
  a5 := Try.isAgg5
  z5 := Try.sizeOf5
  v5 := Try.zeroValue5
  t9 := Try.underlying9
  a9 := Try.isAgg9
  z9 := Try.sizeOf9
  v9 := Try.zeroValue9
  t46 := Try.underlying40
  a46 := Try.isAgg40
  z46 := Try.sizeOf40
  v46 := Try.zeroValue40
  t51 := Try.underlying53
  a51 := Try.isAgg53
  z51 := Try.sizeOf53
  v51 := Try.zeroValue53
  t146 := Try.underlying54
  a146 := Try.isAgg54
  z146 := Try.sizeOf54
  v146 := Try.zeroValue54
  g1 := by kernel_rfl
  i3 := by kernel_rfl
  i4 := by kernel_rfl
  i5 := by kernel_rfl
  i9 := by kernel_rfl
  i46 := by kernel_rfl
  i51 := by kernel_rfl
  i146 := by kernel_rfl
  m1 := by kernel_rfl
  s1_3 := fun w h => Go.Proofs.cell_of_shapedOpen_int (zero := #[.int .i64 0]) (t := 3) h (of_decide_eq_true (by kernel_rfl)) (by kernel_rfl) rfl (by kernel_rfl) (by kernel_rfl) Try.underlying3 }
open Go.RowKit Go.Lib in
theorem Try.strings_Index_shaped (s sub : ByteArray) (w : World) (h : w.ShapedOpen Try.prog) (hs : s.size < 4294967281) :
    Calls Try.prog 35 #[.string s, .string sub] w fun e w' => e = .returned (.int .i64 (Lib.index s.data.toList sub.data.toList)) ∧ w' = w := Any.strings_Index_shaped Try.laysM143 s sub w h hs
def Try.laysM220_ren : Go.Shelf.Ren := ⟨fun | 220 => 54 | 219 => 45 | 217 => 51 | 225 => 55 | 224 => 56 | 267 => 57 | 266 => 59 | 314 => 60 | n => n, fun | 9 => 9 | 4 => 4 | 3 => 3 | 5 => 5 | 46 => 40 | 146 => 54 | 51 => 53 | n => n, fun | 1 => 0 | n => n⟩
theorem Try.laysM220 : Go.Proofs.LaysM.n220 Try.prog Try.laysM220_ren := {
  mixed := by kernel_rfl
  f217 := Try.func51.trans (congrArg some (by kernel_rfl))
  f219 := Try.func45.trans (congrArg some (by kernel_rfl))
  f220 := Try.func54.trans (congrArg some (by kernel_rfl))
  f224 := Try.func56.trans (congrArg some (by kernel_rfl))
  f225 := Try.func55.trans (congrArg some (by kernel_rfl))
  f266 := Try.func59.trans (congrArg some (by kernel_rfl))
  f267 := Try.func57.trans (congrArg some (by kernel_rfl))
  f314 := Try.func60.trans (congrArg some (by kernel_rfl))
  t3 := Try.underlying3
  a3 := Try.isAgg3
  z3 := Try.sizeOf3
  v3 := Try.zeroValue3
  t4 := Try.underlying4
  a4 := Try.isAgg4
  z4 := Try.sizeOf4
  v4 := Try.zeroValue4
  t5 := Try.underlying5
  a5 := Try.isAgg5
  z5 := Try.sizeOf5
  v5 := Try.zeroValue5
  t9 := Try.underlying9
  a9 := Try.isAgg9
  z9 := Try.sizeOf9
  v9 := Try.zeroValue9
  t46 := Try.underlying40
  a46 := Try.isAgg40
  z46 := Try.sizeOf40
  v46 := Try.zeroValue40
  t51 := Try.underlying53
  a51 := Try.isAgg53
  z51 := Try.sizeOf53
  v51 := Try.zeroValue53
  t146 := Try.underlying54
  a146 := Try.isAgg54
  z146 := Try.sizeOf54
  v146 := Try.zeroValue54
  g1 := by kernel_rfl
  i3 := by kernel_rfl
  i4 := by kernel_rfl
  i5 := by kernel_rfl
  i9 := by kernel_rfl
  i46 := by kernel_rfl
  i51 := by kernel_rfl
  i146 := by kernel_rfl
  m1 := by kernel_rfl
  s1_3 := fun w h => Go.Proofs.cell_of_shapedOpen_int (zero := #[.int .i64 0]) (t := 3) h (of_decide_eq_true (by kernel_rfl)) (by kernel_rfl) rfl (by kernel_rfl) (by kernel_rfl) Try.underlying3 }
open Go.RowKit Go.Lib in
theorem Try.stringslite_Cut_shaped (s sep : ByteArray) (w : World) (h : w.ShapedOpen Try.prog) (hs : s.size < 4294967281) :
    Calls Try.prog 54 #[.string s, .string sep] w fun e w' => e = .returned (.tuple #[.string ⟨(Lib.cut s.data.toList sep.data.toList).1.toArray⟩, .string ⟨(Lib.cut s.data.toList sep.data.toList).2.1.toArray⟩, .bool (Lib.cut s.data.toList sep.data.toList).2.2]) ∧ ∃ n, w' = w.drewN n := Any.stringslite_Cut_shaped Try.laysM220 s sep w h hs
def Try.laysM145_ren : Go.Shelf.Ren := ⟨fun | 145 => 44 | 220 => 54 | 219 => 45 | 217 => 51 | 225 => 55 | 224 => 56 | 267 => 57 | 266 => 59 | 314 => 60 | n => n, fun | 9 => 9 | 4 => 4 | 59 => 25 | 3 => 3 | 5 => 5 | 46 => 40 | 146 => 54 | 51 => 53 | n => n, fun | 1 => 0 | n => n⟩
theorem Try.laysM145 : Go.Proofs.LaysM.n145 Try.prog Try.laysM145_ren := {
  mixed := by kernel_rfl
  f145 := Try.func44.trans (congrArg some (by kernel_rfl))
  f217 := Try.func51.trans (congrArg some (by kernel_rfl))
  f219 := Try.func45.trans (congrArg some (by kernel_rfl))
  f220 := Try.func54.trans (congrArg some (by kernel_rfl))
  f224 := Try.func56.trans (congrArg some (by kernel_rfl))
  f225 := Try.func55.trans (congrArg some (by kernel_rfl))
  f266 := Try.func59.trans (congrArg some (by kernel_rfl))
  f267 := Try.func57.trans (congrArg some (by kernel_rfl))
  f314 := Try.func60.trans (congrArg some (by kernel_rfl))
  t3 := Try.underlying3
  a3 := Try.isAgg3
  z3 := Try.sizeOf3
  v3 := Try.zeroValue3
  t4 := Try.underlying4
  a4 := Try.isAgg4
  z4 := Try.sizeOf4
  v4 := Try.zeroValue4
  t5 := Try.underlying5
  a5 := Try.isAgg5
  z5 := Try.sizeOf5
  v5 := Try.zeroValue5
  t9 := Try.underlying9
  a9 := Try.isAgg9
  z9 := Try.sizeOf9
  v9 := Try.zeroValue9
  t46 := Try.underlying40
  a46 := Try.isAgg40
  z46 := Try.sizeOf40
  v46 := Try.zeroValue40
  t51 := Try.underlying53
  a51 := Try.isAgg53
  z51 := Try.sizeOf53
  v51 := Try.zeroValue53
  t59 := Try.underlying25
  a59 := Try.isAgg25
  z59 := Try.sizeOf25
  v59 := Try.zeroValue25
  t146 := Try.underlying54
  a146 := Try.isAgg54
  z146 := Try.sizeOf54
  v146 := Try.zeroValue54
  g1 := by kernel_rfl
  i3 := by kernel_rfl
  i4 := by kernel_rfl
  i5 := by kernel_rfl
  i9 := by kernel_rfl
  i46 := by kernel_rfl
  i51 := by kernel_rfl
  i59 := by kernel_rfl
  i146 := by kernel_rfl
  m1 := by kernel_rfl
  s1_3 := fun w h => Go.Proofs.cell_of_shapedOpen_int (zero := #[.int .i64 0]) (t := 3) h (of_decide_eq_true (by kernel_rfl)) (by kernel_rfl) rfl (by kernel_rfl) (by kernel_rfl) Try.underlying3 }
open Go.RowKit Go.Lib in
theorem Try.strings_Cut_shaped (s sep : ByteArray) (w : World) (h : w.ShapedOpen Try.prog) (hs : s.size < 4294967281) :
    Calls Try.prog 44 #[.string s, .string sep] w fun e w' => e = .returned (.tuple #[.string ⟨(Lib.cut s.data.toList sep.data.toList).1.toArray⟩, .string ⟨(Lib.cut s.data.toList sep.data.toList).2.1.toArray⟩, .bool (Lib.cut s.data.toList sep.data.toList).2.2]) ∧ ∃ n, w' = w.drewN n := Any.strings_Cut_shaped Try.laysM145 s sep w h hs
def Try.lays206_ren : Go.Shelf.Ren := ⟨fun | 206 => 46 | n => n, fun | 9 => 9 | 4 => 4 | 3 => 3 | n => n, fun | n => n⟩
theorem Try.lays206 : Go.Proofs.Lays.n206 Try.prog Try.lays206_ren := {
  mixed := by kernel_rfl
  f206 := Try.func46.trans (congrArg some (by kernel_rfl))
  t3 := Try.underlying3
  a3 := Try.isAgg3
  z3 := Try.sizeOf3
  v3 := Try.zeroValue3
  t4 := Try.underlying4
  a4 := Try.isAgg4
  z4 := Try.sizeOf4
  v4 := Try.zeroValue4
  t9 := Try.underlying9
  a9 := Try.isAgg9
  z9 := Try.sizeOf9
  v9 := Try.zeroValue9 }
open Go.RowKit Go.Lib in
theorem Try.stringslite_HasPrefix (s p : ByteArray) (w : World) :
    Calls Try.prog 46 #[.string s, .string p] w fun e w' => e = .returned (.bool (Lib.hasPrefix s.data.toList p.data.toList)) ∧ w' = w := Any.stringslite_HasPrefix Try.lays206 s p w
def Try.lays99_ren : Go.Shelf.Ren := ⟨fun | 99 => 37 | 206 => 46 | n => n, fun | 9 => 9 | 4 => 4 | 3 => 3 | n => n, fun | n => n⟩
theorem Try.lays99 : Go.Proofs.Lays.n99 Try.prog Try.lays99_ren := {
  mixed := by kernel_rfl
  f99 := Try.func37.trans (congrArg some (by kernel_rfl))
  f206 := Try.func46.trans (congrArg some (by kernel_rfl))
  t3 := Try.underlying3
  a3 := Try.isAgg3
  z3 := Try.sizeOf3
  v3 := Try.zeroValue3
  t4 := Try.underlying4
  a4 := Try.isAgg4
  z4 := Try.sizeOf4
  v4 := Try.zeroValue4
  t9 := Try.underlying9
  a9 := Try.isAgg9
  z9 := Try.sizeOf9
  v9 := Try.zeroValue9 }
open Go.RowKit Go.Lib in
theorem Try.strings_HasPrefix (s p : ByteArray) (w : World) :
    Calls Try.prog 37 #[.string s, .string p] w fun e w' => e = .returned (.bool (Lib.hasPrefix s.data.toList p.data.toList)) ∧ w' = w := Any.strings_HasPrefix Try.lays99 s p w
def Try.lays152_ren : Go.Shelf.Ren := ⟨fun | 152 => 47 | 137 => 39 | 119 => 58 | 224 => 56 | 225 => 55 | 217 => 51 | 266 => 59 | n => n, fun | 9 => 9 | 21 => 21 | 3 => 3 | 4 => 4 | 5 => 5 | 0 => 0 | 46 => 40 | n => n, fun | n => n⟩
theorem Try.lays152 : Go.Proofs.Lays.n152 Try.prog Try.lays152_ren := {
  mixed := by kernel_rfl
  f119 := Try.func58.trans (congrArg some (by kernel_rfl))
  f137 := Try.func39.trans (congrArg some (by kernel_rfl))
  f152 := Try.func47.trans (congrArg some (by kernel_rfl))
  f217 := Try.func51.trans (congrArg some (by kernel_rfl))
  f224 := Try.func56.trans (congrArg some (by kernel_rfl))
  f225 := Try.func55.trans (congrArg some (by kernel_rfl))
  f266 := Try.func59.trans (congrArg some (by kernel_rfl))
  t0 := Try.underlying0
  a0 := Try.isAgg0
  z0 := Try.sizeOf0
  v0 := Try.zeroValue0
  t3 := Try.underlying3
  a3 := Try.isAgg3
  z3 := Try.sizeOf3
  v3 := Try.zeroValue3
  t4 := Try.underlying4
  a4 := Try.isAgg4
  z4 := Try.sizeOf4
  v4 := Try.zeroValue4
  t5 := Try.underlying5
  a5 := Try.isAgg5
  z5 := Try.sizeOf5
  v5 := Try.zeroValue5
  t9 := Try.underlying9
  a9 := Try.isAgg9
  z9 := Try.sizeOf9
  v9 := Try.zeroValue9
  t21 := Try.underlying21
  a21 := Try.isAgg21
  z21 := Try.sizeOf21
  v21 := Try.zeroValue21
  t46 := Try.underlying40
  a46 := Try.isAgg40
  z46 := Try.sizeOf40
  v46 := Try.zeroValue40 }
open Go.RowKit Go.Lib in
theorem Try.strings_IndexRune_ascii (s : ByteArray) (r : Int) (w : World) (h0 : 0 ≤ r) (h1 : r < 128) :
    Calls Try.prog 47 #[.string s, .int .i32 r] w fun e w' => e = .returned (.int .i64 (Lib.indexByte s.data.toList r.toNat.toUInt8)) ∧ w' = w := Any.strings_IndexRune_ascii Try.lays152 s r w h0 h1
def Try.lays226_ren : Go.Shelf.Ren := ⟨fun | 226 => 48 | n => n, fun | 3 => 3 | 4 => 4 | n => n, fun | n => n⟩
theorem Try.lays226 : Go.Proofs.Lays.n226 Try.prog Try.lays226_ren := {
  mixed := by kernel_rfl
  f226 := Try.func48.trans (congrArg some (by kernel_rfl))
  t3 := Try.underlying3
  a3 := Try.isAgg3
  z3 := Try.sizeOf3
  v3 := Try.zeroValue3
  t4 := Try.underlying4
  a4 := Try.isAgg4
  z4 := Try.sizeOf4
  v4 := Try.zeroValue4 }
open Go.RowKit Go.Lib in
theorem Try.strings_shouldUseASCIISet (n : Int) (w : World) :
    Calls Try.prog 48 #[.int .i64 n] w fun e w' => e = .returned (.bool (decide (8 < n))) ∧ w' = w := Any.strings_shouldUseASCIISet Try.lays226 n w
def Try.lays153_ren : Go.Shelf.Ren := ⟨fun | 153 => 38 | 152 => 47 | 226 => 48 | 227 => 49 | 228 => 50 | 137 => 39 | 119 => 58 | 224 => 56 | 225 => 55 | 217 => 51 | 266 => 59 | n => n, fun | 9 => 9 | 3 => 3 | 4 => 4 | 5 => 5 | 21 => 21 | 117 => 48 | 116 => 47 | 0 => 0 | 46 => 40 | 124 => 52 | n => n, fun | n => n⟩
theorem Try.lays153 : Go.Proofs.Lays.n153 Try.prog Try.lays153_ren := {
  mixed := by kernel_rfl
  f119 := Try.func58.trans (congrArg some (by kernel_rfl))
  f137 := Try.func39.trans (congrArg some (by kernel_rfl))
  f152 := Try.func47.trans (congrArg some (by kernel_rfl))
  f153 := Try.func38.trans (congrArg some (by kernel_rfl))
  f217 := Try.func51.trans (congrArg some (by kernel_rfl))
  f224 := Try.func56.trans (congrArg some (by kernel_rfl))
  f225 := Try.func55.trans (congrArg some (by kernel_rfl))
  f226 := Try.func48.trans (congrArg some (by kernel_rfl))
  f227 := Try.func49.trans (congrArg some (by kernel_rfl))
  f228 := Try.func50.trans (congrArg some (by kernel_rfl))
  f266 := Try.func59.trans (congrArg some (by kernel_rfl))
  t0 := Try.underlying0
  a0 := Try.isAgg0
  z0 := Try.sizeOf0
  v0 := Try.zeroValue0
  t3 := Try.underlying3
  a3 := Try.isAgg3
  z3 := Try.sizeOf3
  v3 := Try.zeroValue3
  t4 := Try.underlying4
  a4 := Try.isAgg4
  z4 := Try.sizeOf4
  v4 := Try.zeroValue4
  t5 := Try.underlying5
  a5 := Try.isAgg5
  z5 := Try.sizeOf5
  v5 := Try.zeroValue5
  t9 := Try.underlying9
  a9 := Try.isAgg9
  z9 := Try.sizeOf9
  v9 := Try.zeroValue9
  t21 := Try.underlying21
  a21 := Try.isAgg21
  z21 := Try.sizeOf21
  v21 := Try.zeroValue21
  t46 := Try.underlying40
  a46 := Try.isAgg40
  z46 := Try.sizeOf40
  v46 := Try.zeroValue40
  t116 := Try.underlying47
  a116 := Try.isAgg47
  z116 := Try.sizeOf47
  t117 := Try.underlying48
  a117 := Try.isAgg48
  z117 := Try.sizeOf48
  v117 := Try.zeroValue48
  t124 := Try.underlying52
  a124 := Try.isAgg52
  z124 := Try.sizeOf52
  v124 := Try.zeroValue52 }
open Go.RowKit Go.Lib in
theorem Try.strings_IndexAny_none (s chars : ByteArray) (w : World) (h0 : chars.size = 0) :
    Calls Try.prog 38 #[.string s, .string chars] w fun e w' => e = .returned (.int .i64 (Lib.indexAny s.data.toList chars.data.toList)) ∧ w' = w := Any.strings_IndexAny_none Try.lays153 s chars w h0
open Go.RowKit Go.Lib in
theorem Try.strings_IndexAny_one (s chars : ByteArray) (w : World) (h1 : chars.size = 1) (hascii : ∀ (j : Nat) b, chars.data.toList[j]? = some b → b.toNat < 128) :
    Calls Try.prog 38 #[.string s, .string chars] w fun e w' => e = .returned (.int .i64 (Lib.indexAny s.data.toList chars.data.toList)) ∧ w' = w := Any.strings_IndexAny_one Try.lays153 s chars w h1 hascii
open Go.RowKit Go.Lib in
theorem Try.strings_IndexAny_short (s chars : ByteArray) (w : World) (h2 : 2 ≤ chars.size) (h8 : s.size ≤ 8) (hascii : ∀ (j : Nat) b, s.data.toList[j]? = some b → b.toNat < 128) :
    Calls Try.prog 38 #[.string s, .string chars] w fun e w' => e = .returned (.int .i64 (Lib.indexAny s.data.toList chars.data.toList)) ∧ ∃ pos, w' = w.iter s pos := Any.strings_IndexAny_short Try.lays153 s chars w h2 h8 hascii
def Try.lays227_ren : Go.Shelf.Ren := ⟨fun | 227 => 49 | n => n, fun | 9 => 9 | 116 => 47 | 4 => 4 | 0 => 0 | 3 => 3 | 5 => 5 | n => n, fun | n => n⟩
theorem Try.lays227 : Go.Proofs.Lays.n227 Try.prog Try.lays227_ren := {
  mixed := by kernel_rfl
  f227 := Try.func49.trans (congrArg some (by kernel_rfl))
  t0 := Try.underlying0
  a0 := Try.isAgg0
  z0 := Try.sizeOf0
  v0 := Try.zeroValue0
  t3 := Try.underlying3
  a3 := Try.isAgg3
  z3 := Try.sizeOf3
  v3 := Try.zeroValue3
  t4 := Try.underlying4
  a4 := Try.isAgg4
  z4 := Try.sizeOf4
  v4 := Try.zeroValue4
  t5 := Try.underlying5
  a5 := Try.isAgg5
  z5 := Try.sizeOf5
  v5 := Try.zeroValue5
  t9 := Try.underlying9
  a9 := Try.isAgg9
  z9 := Try.sizeOf9
  v9 := Try.zeroValue9
  t116 := Try.underlying47
  a116 := Try.isAgg47
  z116 := Try.sizeOf47 }
open Go.RowKit Go.Lib in
theorem Try.strings_makeASCIISet (hv116 : ∀ w, (zeroValue 47).run Try.prog w = .ok (.agg (Array.replicate 256 (.bool false))) w) (chars : ByteArray) (w : World) (hs : chars.size < 4294967281) (hascii : ∀ (j : Nat) b, chars.data.toList[j]? = some b → b.toNat < 128) :
    Calls Try.prog 49 #[.string chars] w fun e w' => e = .returned (.tuple #[.agg (Lib.setCells chars.data.toList), .bool true]) ∧ w' = w.alloc (.cells (Lib.setCells chars.data.toList) 47) := Any.strings_makeASCIISet Try.lays227 hv116 (by kernel_rfl) chars w hs hascii
def Try.lays228_ren : Go.Shelf.Ren := ⟨fun | 228 => 50 | n => n, fun | 124 => 52 | 5 => 5 | 4 => 4 | 0 => 0 | 116 => 47 | n => n, fun | n => n⟩
theorem Try.lays228 : Go.Proofs.Lays.n228 Try.prog Try.lays228_ren := {
  mixed := by kernel_rfl
  f228 := Try.func50.trans (congrArg some (by kernel_rfl))
  t0 := Try.underlying0
  a0 := Try.isAgg0
  z0 := Try.sizeOf0
  v0 := Try.zeroValue0
  t4 := Try.underlying4
  a4 := Try.isAgg4
  z4 := Try.sizeOf4
  v4 := Try.zeroValue4
  t5 := Try.underlying5
  a5 := Try.isAgg5
  z5 := Try.sizeOf5
  v5 := Try.zeroValue5
  t116 := Try.underlying47
  a116 := Try.isAgg47
  z116 := Try.sizeOf47
  t124 := Try.underlying52
  a124 := Try.isAgg52
  z124 := Try.sizeOf52
  v124 := Try.zeroValue52 }
open Go.RowKit Go.Lib in
theorem Try.asciiSet_contains (b : Nat) (x : UInt8) (v : Bool) (w : World) (hc : w.cell? ⟨b, x.toNat, none⟩ = some (.bool v)) :
    Calls Try.prog 50 #[.pointer (some ⟨b, 0, none⟩), .int .u8 x.toNat] w fun e w' => e = .returned (.bool v) ∧ w' = w := Any.asciiSet_contains Try.lays228 b x v w hc
open Go.RowKit Go.Lib in
theorem Try.strings_IndexAny_long (hv116 : ∀ w, (zeroValue 47).run Try.prog w = .ok (.agg (Array.replicate 256 (.bool false))) w) (s chars : ByteArray) (w : World) (h2 : 2 ≤ chars.size) (h8 : 8 < s.size) (hs : s.size < 4294967281) (hcs : chars.size < 4294967281) (hascii : ∀ (j : Nat) b, chars.data.toList[j]? = some b → b.toNat < 128) :
    Calls Try.prog 38 #[.string s, .string chars] w fun e w' => e = .returned (.int .i64 (Lib.indexAny s.data.toList chars.data.toList)) ∧ w' = ((w.alloc (.cells (Lib.setCells chars.data.toList) 47)).alloc (.cells (Lib.setCells chars.data.toList) 47)) := Any.strings_IndexAny_long Try.lays153 hv116 (by kernel_rfl) s chars w h2 h8 hs hcs hascii
open Go.RowKit Go.Lib in
theorem Try.strings_IndexAny (hv116 : ∀ w, (zeroValue 47).run Try.prog w = .ok (.agg (Array.replicate 256 (.bool false))) w) (s chars : ByteArray) (w : World) (hs : s.size < 4294967281) (hcs : chars.size < 4294967281) (has : ∀ (j : Nat) b, s.data.toList[j]? = some b → b.toNat < 128) (hac : ∀ (j : Nat) b, chars.data.toList[j]? = some b → b.toNat < 128) :
    Calls Try.prog 38 #[.string s, .string chars] w fun e w' => e = .returned (.int .i64 (Lib.indexAny s.data.toList chars.data.toList)) ∧ Below w.heap.size w w' := Any.strings_IndexAny Try.lays153 hv116 (by kernel_rfl) s chars w hs hcs has hac
open Go.RowKit Go.Lib in
theorem Try.strings_IndexAny_laid (s chars : ByteArray) (w : World) (hs : s.size < 4294967281) (hcs : chars.size < 4294967281) (has : ∀ (j : Nat) b, s.data.toList[j]? = some b → b.toNat < 128) (hac : ∀ (j : Nat) b, chars.data.toList[j]? = some b → b.toNat < 128) :
    Calls Try.prog 38 #[.string s, .string chars] w fun e w' => e = .returned (.int .i64 (Lib.indexAny s.data.toList chars.data.toList)) ∧ Below w.heap.size w w' := Any.strings_IndexAny_laid Try.lays153 (by kernel_rfl) s chars w hs hcs has hac
end Go.Proofs
