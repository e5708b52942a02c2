/-
  THE LIBRARY's CONTRACTS OFF THE KIT's SHELF, laid at this dump by the kit's own tools (lay-shelf, lay-iter, lay-plain: plain words): strconv.AppendInt at base 10; slices.Sorted over maps.Keys.
-/
import Derived.Shelf.LaysM
import Derived.Shelf.Strconv.AppendIntPublic10
import Derived.Shelf.SlIter.Nil
import Derived.Shelf.SortM.Plain
import Derived.Shelf.SortM.SortNone
import Derived.Ground.GgzProg
import Derived.Ground.SlgmProg
import Derived.Test.Qxb6627460aFmtProg
import Derived.Test.Qxb6627460aFmtRows
namespace Go.Proofs
open Go.Shelf
def Tryf.laysM176_ren : Go.Shelf.Ren := ⟨fun | 176 => 22 | 249 => 26 | 288 => 30 | 283 => 42 | 284 => 43 | 285 => 44 | 286 => 45 | 129 => 41 | 317 => 52 | 318 => 53 | 319 => 54 | 320 => 55 | 337 => 57 | 338 => 58 | n => n, fun | 37 => 22 | 2 => 2 | 3 => 3 | 53 => 41 | 4 => 4 | 9 => 9 | 171 => 80 | 0 => 0 | 173 => 82 | 212 => 92 | 51 => 77 | 5 => 5 | 20 => 20 | 213 => 93 | 46 => 65 | 232 => 98 | 233 => 99 | n => n, fun | 17 => 0 | 18 => 1 | 19 => 2 | n => n⟩
theorem Tryf.laysM176 : Go.Proofs.LaysM.n176 Tryf.prog Tryf.laysM176_ren := {
  mixed := by kernel_rfl
  f129 := Tryf.func41.trans (congrArg some (by kernel_rfl))
  f176 := Tryf.func22.trans (congrArg some (by kernel_rfl))
  f249 := Tryf.func26.trans (congrArg some (by kernel_rfl))
  f283 := Tryf.func42.trans (congrArg some (by kernel_rfl))
  f284 := Tryf.func43.trans (congrArg some (by kernel_rfl))
  f285 := Tryf.func44.trans (congrArg some (by kernel_rfl))
  f286 := Tryf.func45.trans (congrArg some (by kernel_rfl))
  f288 := Tryf.func30.trans (congrArg some (by kernel_rfl))
  f317 := Tryf.func52.trans (congrArg some (by kernel_rfl))
  f318 := Tryf.func53.trans (congrArg some (by kernel_rfl))
  f319 := Tryf.func54.trans (congrArg some (by kernel_rfl))
  f320 := Tryf.func55.trans (congrArg some (by kernel_rfl))
  f337 := Tryf.func57.trans (congrArg some (by kernel_rfl))
  f338 := Tryf.func58.trans (congrArg some (by kernel_rfl))
  t0 := Tryf.underlying0
  a0 := Tryf.isAgg0
  z0 := Tryf.sizeOf0
  v0 := Tryf.zeroValue0
  t2 := Tryf.underlying2
  a2 := Tryf.isAgg2
  z2 := Tryf.sizeOf2
  v2 := Tryf.zeroValue2
  t3 := Tryf.underlying3
  a3 := Tryf.isAgg3
  z3 := Tryf.sizeOf3
  v3 := Tryf.zeroValue3
  t4 := Tryf.underlying4
  a4 := Tryf.isAgg4
  z4 := Tryf.sizeOf4
  v4 := Tryf.zeroValue4
  t5 := Tryf.underlying5
  a5 := Tryf.isAgg5
  z5 := Tryf.sizeOf5
  v5 := Tryf.zeroValue5
  t9 := Tryf.underlying9
  a9 := Tryf.isAgg9
  z9 := Tryf.sizeOf9
  v9 := Tryf.zeroValue9
  t20 := Tryf.underlying20
  a20 := Tryf.isAgg20
  z20 := Tryf.sizeOf20
  v20 := Tryf.zeroValue20
  t37 := Tryf.underlying22
  a37 := Tryf.isAgg22
  z37 := Tryf.sizeOf22
  v37 := Tryf.zeroValue22
  t46 := Tryf.underlying65
  a46 := Tryf.isAgg65
  z46 := Tryf.sizeOf65
  v46 := Tryf.zeroValue65
  t51 := Tryf.underlying77
  a51 := Tryf.isAgg77
  z51 := Tryf.sizeOf77
  v51 := Tryf.zeroValue77
  t53 := Tryf.underlying41
  a53 := Tryf.isAgg41
  z53 := Tryf.sizeOf41
  v53 := Tryf.zeroValue41
  t171 := Tryf.underlying80
  a171 := Tryf.isAgg80
  z171 := Tryf.sizeOf80
  v171 := Tryf.zeroValue80
  t173 := Tryf.underlying82
  a173 := Tryf.isAgg82
  z173 := Tryf.sizeOf82
  v173 := Tryf.zeroValue82
  t212 := Tryf.underlying92
  a212 := Tryf.isAgg92
  z212 := Tryf.sizeOf92
  v212 := Tryf.zeroValue92
  t213 := Tryf.underlying93
  a213 := Tryf.isAgg93
  z213 := Tryf.sizeOf93
  t232 := Tryf.underlying98
  a232 := Tryf.isAgg98
  z232 := Tryf.sizeOf98
  v232 := Tryf.zeroValue98
  t233 := Tryf.underlying99
  a233 := Tryf.isAgg99
  z233 := Tryf.sizeOf99
  v233 := Tryf.zeroValue99
  g17 := by kernel_rfl
  g18 := by kernel_rfl
  g19 := by kernel_rfl
  i0 := by kernel_rfl
  i2 := by kernel_rfl
  i3 := by kernel_rfl
  i4 := by kernel_rfl
  i5 := by kernel_rfl
  i9 := by kernel_rfl
  i20 := by kernel_rfl
  i37 := by kernel_rfl
  i46 := by kernel_rfl
  i51 := by kernel_rfl
  i53 := by kernel_rfl
  i171 := by kernel_rfl
  i173 := by kernel_rfl
  i212 := by kernel_rfl
  i232 := by kernel_rfl
  i233 := by kernel_rfl
  m17 := by kernel_rfl
  m18 := by kernel_rfl
  m19 := by kernel_rfl }
def Tryf.keys18_ren : Go.Shelf.Ren := ⟨fun | 7 => 18 | 10 => 25 | n => n, fun | 23 => 32 | 26 => 9 | 3 => 20 | 28 => 48 | 0 => 0 | 27 => 47 | 33 => 58 | 4 => 4 | n => n, fun | n => n⟩
theorem Tryf.keys18 : Go.Proofs.SlLaysZ.n7 Tryf.prog Tryf.keys18_ren := {
  mixed := by kernel_rfl
  f7 := ⟨Tryf.f18.name, by decide, Tryf.func18.trans (congrArg some (by kernel_rfl))⟩
  f10 := ⟨Tryf.f25.name, by decide, Tryf.func25.trans (congrArg some (by kernel_rfl))⟩
  t0 := Tryf.underlying0
  a0 := Tryf.isAgg0
  z0 := Tryf.sizeOf0
  v0 := Tryf.zeroValue0
  t4 := Tryf.underlying4
  a4 := Tryf.isAgg4
  z4 := Tryf.sizeOf4
  v4 := Tryf.zeroValue4
  t23 := Tryf.underlying32
  a23 := Tryf.isAgg32
  z23 := Tryf.sizeOf32
  v23 := Tryf.zeroValue32
  t26 := Tryf.underlying9
  a26 := Tryf.isAgg9
  z26 := Tryf.sizeOf9
  v26 := Tryf.zeroValue9
  t27 := Tryf.underlying47
  a27 := Tryf.isAgg47
  z27 := Tryf.sizeOf47
  v27 := Tryf.zeroValue47
  t28 := Tryf.underlying48
  a28 := Tryf.isAgg48
  z28 := Tryf.sizeOf48
  v28 := Tryf.zeroValue48
  t33 := Tryf.underlying58
  a33 := Tryf.isAgg58
  z33 := Tryf.sizeOf58
  v33 := Tryf.zeroValue58 }
def Tryf.sorted17_ren : Go.Shelf.Ren := ⟨fun | 6 => 17 | 8 => 23 | 9 => 24 | 11 => 27 | 13 => 29 | 12 => 28 | 23 => 40 | 24 => 41 | 14 => 31 | 15 => 32 | 16 => 33 | 17 => 34 | 18 => 35 | 19 => 36 | 20 => 37 | 21 => 38 | 22 => 39 | 25 => 46 | 26 => 47 | 27 => 48 | 28 => 49 | 29 => 50 | 30 => 51 | 31 => 56 | n => n, fun | 26 => 9 | 28 => 48 | 24 => 45 | 0 => 0 | 3 => 3 | 37 => 65 | 48 => 77 | 50 => 41 | 4 => 4 | 40 => 69 | 39 => 68 | 45 => 74 | 5 => 5 | 9 => 9 | 51 => 84 | 55 => 88 | 57 => 95 | 58 => 96 | 33 => 58 | n => n, fun | n => n⟩
theorem Tryf.sorted17 : Go.Proofs.SlLaysZ.n6 Tryf.prog Tryf.sorted17_ren := {
  mixed := by kernel_rfl
  f6 := ⟨Tryf.f17.name, by decide, Tryf.func17.trans (congrArg some (by kernel_rfl))⟩
  f8 := ⟨Tryf.f23.name, by decide, Tryf.func23.trans (congrArg some (by kernel_rfl))⟩
  f11 := ⟨Tryf.f27.name, by decide, Tryf.func27.trans (congrArg some (by kernel_rfl))⟩
  t0 := Tryf.underlying0
  a0 := Tryf.isAgg0
  z0 := Tryf.sizeOf0
  v0 := Tryf.zeroValue0
  t24 := Tryf.underlying45
  a24 := Tryf.isAgg45
  z24 := Tryf.sizeOf45
  v24 := Tryf.zeroValue45
  t26 := Tryf.underlying9
  a26 := Tryf.isAgg9
  z26 := Tryf.sizeOf9
  v26 := Tryf.zeroValue9
  t28 := Tryf.underlying48
  a28 := Tryf.isAgg48
  z28 := Tryf.sizeOf48
  v28 := Tryf.zeroValue48
  i26 := by kernel_rfl }
def Tryf.sort24_ren : Go.Shelf.Ren := ⟨fun | 6 => 24 | 8 => 29 | 9 => 28 | 19 => 40 | 20 => 41 | 21 => 31 | 22 => 32 | 23 => 33 | 24 => 34 | 25 => 35 | 26 => 36 | 27 => 37 | 28 => 38 | 29 => 39 | 36 => 46 | 31 => 47 | 32 => 48 | 37 => 49 | 38 => 50 | 39 => 51 | 41 => 56 | n => n, fun | 27 => 45 | 29 => 9 | 3 => 3 | 32 => 65 | 26 => 45 | 0 => 0 | 44 => 77 | 46 => 41 | 4 => 4 | 36 => 69 | 35 => 68 | 41 => 74 | 5 => 5 | 9 => 9 | 53 => 84 | 57 => 88 | 63 => 95 | 64 => 96 | n => n, fun | n => n⟩
theorem Tryf.sort24 : Go.Proofs.SlLaysM.n6 Tryf.prog Tryf.sort24_ren := {
  mixed := by kernel_rfl
  f6 := ⟨Tryf.f24.name, by decide, Tryf.func24.trans (congrArg some (by kernel_rfl))⟩
  f8 := Tryf.func29.trans (congrArg some (by kernel_rfl))
  f9 := ⟨Tryf.f28.name, by decide, Tryf.func28.trans (congrArg some (by kernel_rfl))⟩
  f19 := Tryf.func40.trans (congrArg some (by kernel_rfl))
  f20 := Tryf.func41.trans (congrArg some (by kernel_rfl))
  f21 := ⟨Tryf.f31.name, by decide, Tryf.func31.trans (congrArg some (by kernel_rfl))⟩
  f22 := ⟨Tryf.f32.name, by decide, Tryf.func32.trans (congrArg some (by kernel_rfl))⟩
  f23 := ⟨Tryf.f33.name, by decide, Tryf.func33.trans (congrArg some (by kernel_rfl))⟩
  f24 := ⟨Tryf.f34.name, by decide, Tryf.func34.trans (congrArg some (by kernel_rfl))⟩
  f25 := ⟨Tryf.f35.name, by decide, Tryf.func35.trans (congrArg some (by kernel_rfl))⟩
  f26 := ⟨Tryf.f36.name, by decide, Tryf.func36.trans (congrArg some (by kernel_rfl))⟩
  f27 := ⟨Tryf.f37.name, by decide, Tryf.func37.trans (congrArg some (by kernel_rfl))⟩
  f28 := ⟨Tryf.f38.name, by decide, Tryf.func38.trans (congrArg some (by kernel_rfl))⟩
  f29 := ⟨Tryf.f39.name, by decide, Tryf.func39.trans (congrArg some (by kernel_rfl))⟩
  f31 := Tryf.func47.trans (congrArg some (by kernel_rfl))
  f32 := Tryf.func48.trans (congrArg some (by kernel_rfl))
  f36 := ⟨Tryf.f46.name, by decide, Tryf.func46.trans (congrArg some (by kernel_rfl))⟩
  f37 := ⟨Tryf.f49.name, by decide, Tryf.func49.trans (congrArg some (by kernel_rfl))⟩
  f38 := ⟨Tryf.f50.name, by decide, Tryf.func50.trans (congrArg some (by kernel_rfl))⟩
  f39 := ⟨Tryf.f51.name, by decide, Tryf.func51.trans (congrArg some (by kernel_rfl))⟩
  f41 := ⟨Tryf.f56.name, by decide, Tryf.func56.trans (congrArg some (by kernel_rfl))⟩
  t0 := Tryf.underlying0
  a0 := Tryf.isAgg0
  z0 := Tryf.sizeOf0
  v0 := Tryf.zeroValue0
  t3 := Tryf.underlying3
  a3 := Tryf.isAgg3
  z3 := Tryf.sizeOf3
  v3 := Tryf.zeroValue3
  t4 := Tryf.underlying4
  a4 := Tryf.isAgg4
  z4 := Tryf.sizeOf4
  v4 := Tryf.zeroValue4
  t5 := Tryf.underlying5
  a5 := Tryf.isAgg5
  z5 := Tryf.sizeOf5
  v5 := Tryf.zeroValue5
  t9 := Tryf.underlying9
  a9 := Tryf.isAgg9
  z9 := Tryf.sizeOf9
  v9 := Tryf.zeroValue9
  t26 := Tryf.underlying45
  a26 := Tryf.isAgg45
  z26 := Tryf.sizeOf45
  v26 := Tryf.zeroValue45
  t27 := Tryf.underlying45
  a27 := Tryf.isAgg45
  z27 := Tryf.sizeOf45
  v27 := Tryf.zeroValue45
  t29 := Tryf.underlying9
  a29 := Tryf.isAgg9
  z29 := Tryf.sizeOf9
  v29 := Tryf.zeroValue9
  t32 := Tryf.underlying65
  a32 := Tryf.isAgg65
  z32 := Tryf.sizeOf65
  v32 := Tryf.zeroValue65
  t35 := Tryf.underlying68
  a35 := Tryf.isAgg68
  z35 := Tryf.sizeOf68
  v35 := Tryf.zeroValue68
  t36 := Tryf.underlying69
  a36 := Tryf.isAgg69
  z36 := Tryf.sizeOf69
  v36 := Tryf.zeroValue69
  t41 := Tryf.underlying74
  a41 := Tryf.isAgg74
  z41 := Tryf.sizeOf74
  v41 := Tryf.zeroValue74
  t44 := Tryf.underlying77
  a44 := Tryf.isAgg77
  z44 := Tryf.sizeOf77
  v44 := Tryf.zeroValue77
  t46 := Tryf.underlying41
  a46 := Tryf.isAgg41
  z46 := Tryf.sizeOf41
  v46 := Tryf.zeroValue41
  t53 := Tryf.underlying84
  a53 := Tryf.isAgg84
  z53 := Tryf.sizeOf84
  v53 := Tryf.zeroValue84
  t57 := Tryf.underlying88
  a57 := Tryf.isAgg88
  z57 := Tryf.sizeOf88
  v57 := Tryf.zeroValue88
  t63 := Tryf.underlying95
  a63 := Tryf.isAgg95
  z63 := Tryf.sizeOf95
  v63 := Tryf.zeroValue95
  t64 := Tryf.underlying96
  a64 := Tryf.isAgg96
  z64 := Tryf.sizeOf96
  v64 := Tryf.zeroValue96 }

namespace Qxb6627460aFmt
/-- The table's name, out of the given row. -/
def powName : String := Rows.fnMetadataMessageWireFormatRow.named.headD ""
end Qxb6627460aFmt

open Go.RowKit Go.Sort Go.Lib in
theorem Tryf.strconv_AppendInt_10 (B n : Nat) (i : Int) (h0 : -9223372036854775808 ≤ i) (h1 : i ≤ 9223372036854775807) (sv : Value) (xs : List Value) (w : World) (hown : w.ownsRow B 5 1 sv n xs) (hBw : B ≤ w.heap.size) (hlim : n + 21 ≤ 140737488355328) (htab : Lib.TabBelow Tryf.prog B w Qxb6627460aFmt.powName .u64 Lib.pow10Tab) :
    Calls Tryf.prog 22 #[sv, .int .i64 i, .int .i64 10] w fun e w' => ∃ v', e = .returned v' ∧ w'.ownsRow B 5 1 v' (n + (Lib.itoa i).length) (xs ++ Lib.byteCells (Lib.itoa i)) ∧ Below B w w' ∧ Lib.OthersKept 5 none w w' := Any.strconv_AppendInt_10 Tryf.laysM176 B n i h0 h1 sv xs w hown hBw hlim htab

open Go.RowKit Go.Maps Go.Sort Go.Shelf
/-- slices.Sort's two contracts at this dump, at the fence that asks nothing. -/
theorem Tryf.sorts17 (m : Nat) : AnyZ.SortsIn Tryf.prog Tryf.sorted17_ren Fence.wide m :=
  ⟨fun blk off cap ss W hH hblk hsz => callsIn_wide.2 (AnyM.slices_Sort_string Tryf.sort24 blk off cap ss W hH hblk hsz),
   fun p cap W => callsIn_wide.2 (AnyM.slices_Sort_string_none Tryf.sort24 p cap W)⟩

/-- **maps.Keys[map[string]any,string,any], at whatever map, the nil one too:** a function value over ONE NEW BLOCK, which holds the map. -/
theorem Tryf.maps_Keys_18 (mb : Option Nat) (W : World) : CallsIn Fence.wide 5 Tryf.prog 18 #[.map mb] W fun e w' => e = .returned (.func (.func 25) #[] #[.pointer (some ⟨W.heap.size, 0, none⟩)]) ∧ w' = W.alloc (.cells #[.map mb] 32) :=
  AnyZ.keys_in Tryf.keys18 Fence.wide 5 trivial rfl mb W

set_option maxHeartbeats 1000000 in
/-- **slices.Sorted[string] AT WHAT maps.Keys[map[string]any,string,any] HANDED BACK FOR A MAP THAT IS NOT nil** ('w': the world AHEAD of maps.Keys' call): A NEW SLICE THAT HOLDS THE MAP's KEYS, SORTED; nil just where it has none; nothing that lay before has turned. -/
theorem Tryf.slices_Sorted_keys_17_18 {H : Type} (b nn : Nat) (D0 : DataW H) (R : Value → Option (DataW H × List MemPlace)) (w : World) (hown : w.ownsMap Tryf.prog 9 R b nn D0) (hmax : Maps.size D0 ≤ maxLen) (hbytes : Maps.size D0 * 16 ≤ 140737488355328) :
    CallsIn Fence.wide 5 Tryf.prog 17 #[.func (.func 25) #[] #[.pointer (some ⟨w.heap.size, 0, none⟩)]] (w.alloc (.cells #[.map (some b)] 32)) fun e w' => ∃ (v : Value) (ss : List (List UInt8)), e = .returned v ∧ ss.Perm (strKeys D0) ∧
      w'.ownsRow (w.alloc (.cells #[.map (some b)] 32)).heap.size 9 1 v ss.length ((ss.mergeSort (fun x y => decide (x ≤ y))).map encStr) ∧ (v = .slice none 0 0 ↔ ss = []) ∧ Below (w.alloc (.cells #[.map (some b)] 32)).heap.size (w.alloc (.cells #[.map (some b)] 32)) w' := by
  have hbl := hown.lt
  have hseq : SeqGives Fence.wide 2 Tryf.prog 25 #[.pointer (some ⟨w.heap.size, 0, none⟩)] encStr (fun ss => ss.Perm (strKeys D0)) (Maps.size D0) (w.alloc (.cells #[.map (some b)] 32)) :=
    AnyZ.keys_gives (ρ := Tryf.keys18_ren) { Tryf.keys18 with } Fence.wide _ trivial rfl (by omega) w.heap.size b nn D0 _ (by simp) (by simp) (by
      obtain ⟨es, clock, hb, Ft, hs, hD⟩ := hown
      exact ⟨es, clock, (Below.heap_alloc _ _ b hbl).trans hb, Ft, hs, hD⟩)
  exact AnyZ.sorted_in Tryf.sorted17 Fence.wide 5 trivial trivial trivial trivial rfl (by omega) (Tryf.sorts17 _) (enters_of Tryf.func24 (by kernel_rfl) rfl) 25 #[.pointer (some ⟨w.heap.size, 0, none⟩)] trivial (enters_of Tryf.func25 (by kernel_rfl) rfl) _ _ hmax hbytes _ hseq


end Go.Proofs
