/-
  appendInt (16), appendString (15): what they append.
-/
import Derived.Test.Qxb6627460aFmtShelf
import Derived.WalkKit
import Derived.WalkSpells
import Derived.Below
import Derived.OwnWalk
import Derived.Lib.AppendStr
import Derived.Lib.OthersKept
import Derived.Lib.ItoaLen
import Derived.Maps.AppendAt
namespace Go.Proofs.Qxb6627460aFmt
open Go.RowKit
set_option linter.unusedSimpArgs false
set_option linter.unusedVariables false

theorem Tryf.info5 : (Tryf.prog.info? 5).map (fun i => (i.zero, i.size, i.bytes)) = some (some (.int .u8 0), 1, 1) := by kernel_rfl

/-- What a chain of appends leaves as it was: all below B; every block that is no row of bytes. -/
structure Kept (B : Nat) (w w' : World) : Prop where
  below : Below B w w'
  others : Lib.OthersKept 5 none w w'
theorem Kept.refl (B : Nat) (w : World) : Kept B w w := ⟨Below.refl _ _, Lib.OthersKept.refl _ _ _⟩
theorem Kept.trans {B : Nat} {a b c : World} (h : Kept B a b) (k : Kept B b c) : Kept B a c := ⟨h.below.trans k.below, h.others.trans k.others⟩
theorem Kept.alloc {B : Nat} {a w : World} (h : Kept B a w) (hB : B ≤ w.heap.size) (o : Obj) : Kept B a (w.alloc o) := ⟨h.below.alloc hB o, h.others.alloc o⟩
theorem own_kind {w : World} {B : Nat} {e : TypeId} {v : Value} {n : Nat} {xs : List Value} (h : w.ownsRow B e 1 v n xs) : ∀ g, v.ownBlock = some g → ∃ c fz, w.heap[g]? = some (.cells c e fz) := by
  intro g hg
  rcases h.2 with ⟨rfl, _⟩ | ⟨g', cap, cur, rfl, _, hgg, _⟩
  · simp [Value.ownBlock] at hg
  · simp [Value.ownBlock] at hg
    subst hg
    exact ⟨cur, _, hgg⟩
/-- Behind an append onto a row of bytes that is owned. -/
theorem Kept.grown {B : Nat} {a w w' : World} {v : Value} {n : Nat} {xs : List Value} (h : Kept B a w) (hown : w.ownsRow B 5 1 v n xs) (hB : B ≤ w.heap.size) (hg : w.grownBy w' v.ownBlock) : Kept B a w' :=
  ⟨h.below.grown hg hB (fun k hk => (hown.lt k hk).1), h.others.grown hg (own_kind hown)⟩

/-- The table of powers of ten, in its place. -/
def Tab (B : Nat) (w : World) : Prop := Lib.TabBelow Tryf.prog B w powName .u64 Lib.pow10Tab
theorem Tab.on {B : Nat} {w w' : World} (h : Tab B w) (hb : Below B w w') : Tab B w' := Lib.TabBelow.on h hb

/-- WHAT AN APPENDING CALL DOES: behind xs now stand l's bytes. -/
def Wrote (B n : Nat) (xs : List Value) (l : List UInt8) (w : World) (e : Ending) (w' : World) : Prop :=
  ∃ v', e = .returned v' ∧ w'.ownsRow B 5 1 v' (n + l.length) (xs ++ Lib.byteCells l) ∧ Kept B w w'

theorem bytes_snoc (l : List UInt8) (c : UInt8) : Lib.byteCells l ++ [Value.int .u8 (c.toNat : Int)] = Lib.byteCells (l ++ [c]) := by simp [Lib.byteCells]

/-- i, the numeral, e. -/
def encInt (n : Int) : List UInt8 := 105 :: (Lib.itoa n ++ [101])

set_option maxHeartbeats 400000 in
theorem appendInt_any (B n : Nat) (sv : Value) (xs : List Value) (i : Int) (w : World) (h0 : -9223372036854775808 ≤ i) (h1 : i ≤ 9223372036854775807) (hown : w.ownsRow B 5 1 sv n xs) (hB : B ≤ w.heap.size) (hn : n ≤ 1000000000) (htab : Tab B w) :
    Calls Tryf.prog 16 #[sv, .int .i64 i] w (Wrote B n xs (encInt i) w) := by
  obtain ⟨i0, hi, hz0, hz1, hz2⟩ := info_parts Tryf.info5
  have hlen := Lib.itoa_length_le i h0 h1
  have HT : Hid (Tab B w) := htab
  clear htab
  go_enter Tryf.func16, Tryf.ntmps16
  go_wp2_with (at_builtin; go_must (refine wpList_append_own _ rfl (.tmp 5) (.tmp 6) 22 rfl B 5 i0 (.int .u8 0) 1 1 Tryf.underlying22 hi hz0 hz1 hz2 rfl (by decide) sv n xs rfl (hown.alloc _) ⟨w.heap.size, 0, none⟩ 1 1 [.int .u8 105] rfl rfl (cell_one_new _ _ _) ?b1 ?b2 ?b3 ?b4 ?_))
  case b1 => intro u hu; simp at hu; subst hu; rfl
  case b2 => unfold maxLen; omega
  case b3 => omega
  case b4 => simp; omega
  intro v1 w1 hown1 hg1 _
  have hK1 : Kept B w w1 := ((Kept.refl B w).alloc hB _).grown (hown.alloc _) (by simp; omega) hg1
  have hB1 := Nat.le_trans hB hK1.below.size
  have c22 := Tryf.strconv_AppendInt_10 B (n + 1) i h0 h1 v1 _ w1 hown1 hB1 (by omega) (HT.out.on hK1.below)
  clear hg1 hown
  go_wp2_with (first
    | (go_at_call 22; refine c22.mono ?_; rintro e w2 ⟨v2, rfl, hown2, hb2, ho2⟩; have hK2 : Kept B w w2 := hK1.trans ⟨hb2, ho2⟩; have hB2 := Nat.le_trans hB hK2.below.size)
    | (at_builtin; go_must (refine wpList_append_own _ rfl (.tmp 11) (.tmp 12) 22 rfl B 5 i0 (.int .u8 0) 1 1 Tryf.underlying22 hi hz0 hz1 hz2 rfl (by decide) v2 (n + 1 + (Lib.itoa i).length) _ rfl (hown2.alloc _) ⟨w2.heap.size, 0, none⟩ 1 1 [.int .u8 101] rfl rfl (cell_one_new _ _ _) ?d1 ?d2 ?d3 ?d4 ?_)))
  case d1 => intro u hu; simp at hu; subst hu; rfl
  case d2 => unfold maxLen; omega
  case d3 => omega
  case d4 => simp; omega
  intro v3 w3 hown3 hg3 _
  have hK3 : Kept B w w3 := (hK2.alloc hB2 _).grown (hown2.alloc _) (by simp; omega) hg3
  have e1 : n + 1 + (Lib.itoa i).length + 1 = n + (encInt i).length := by simp [encInt]; omega
  have e2 : xs ++ [Value.int .u8 105] ++ Lib.byteCells (Lib.itoa i) ++ [Value.int .u8 101] = xs ++ Lib.byteCells (encInt i) := by simp [encInt, Lib.byteCells]
  have hown4 : w3.ownsRow B 5 1 v3 (n + (encInt i).length) (xs ++ Lib.byteCells (encInt i)) := by rw [← e1, ← e2]; simpa using hown3
  clear e1 e2 hown3 hown2 hown1 c22 hg3
  go_wp2
  go_ret
  exact ⟨v3, rfl, hown4, hK3⟩

/-- The length, a colon, the bytes. -/
def encS (s : ByteArray) : List UInt8 := Lib.itoa s.size ++ (58 :: s.data.toList)

set_option maxHeartbeats 400000 in
theorem appendString_any (B n : Nat) (sv : Value) (xs : List Value) (s : ByteArray) (w : World) (hs : s.size ≤ 1000000000) (hown : w.ownsRow B 5 1 sv n xs) (hB : B ≤ w.heap.size) (hn : n ≤ 1000000000) (htab : Tab B w) :
    Calls Tryf.prog 15 #[sv, .string s] w (Wrote B n xs (encS s) w) := by
  obtain ⟨i0, hi, hz0, hz1, hz2⟩ := info_parts Tryf.info5
  have hlen := Lib.itoa_length_le s.size (by omega) (by omega)
  have c22 := Tryf.strconv_AppendInt_10 B n s.size (by omega) (by omega) sv xs w hown hB (by omega) htab
  clear htab
  go_enter Tryf.func15, Tryf.ntmps15
  go_wp2_with (first
    | (go_at_call 22; refine c22.mono ?_; rintro e w2 ⟨v2, rfl, hown2, hb2, ho2⟩; have hK2 : Kept B w w2 := ⟨hb2, ho2⟩; have hB2 := Nat.le_trans hB hK2.below.size)
    | (at_builtin; go_must (refine wpList_append_own _ rfl (.tmp 9) (.tmp 10) 22 rfl B 5 i0 (.int .u8 0) 1 1 Tryf.underlying22 hi hz0 hz1 hz2 rfl (by decide) v2 (n + (Lib.itoa s.size).length) _ rfl (hown2.alloc _) ⟨w2.heap.size, 0, none⟩ 1 1 [.int .u8 58] rfl rfl (cell_one_new _ _ _) ?d1 ?d2 ?d3 ?d4 ?_)))
  case d1 => intro u hu; simp at hu; subst hu; rfl
  case d2 => unfold maxLen; omega
  case d3 => omega
  case d4 => simp; omega
  intro v3 w3 hown3 hg3 _
  have hK3 : Kept B w w3 := (hK2.alloc hB2 _).grown (hown2.alloc _) (by simp; omega) hg3
  have hB3 := Nat.le_trans hB hK3.below.size
  clear hg3 c22
  go_wp2_with (at_builtin; go_must (refine Lib.wpList_append_own_string _ rfl (.tmp 12) (.tmp 13) 22 9 rfl B 5 i0 Tryf.underlying22 Tryf.underlying9 hi hz0 hz1 hz2 v3 (n + (Lib.itoa s.size).length + 1) _ rfl hown3 s rfl ?f1 ?f2 hB3 ?_))
  case f1 => unfold maxLen; omega
  case f2 => omega
  intro v4 w4 hown4 hg4 _
  have hK4 : Kept B w w4 := hK3.grown hown3 hB3 hg4
  have hsz : s.data.toList.length = s.size := by simp
  have e1 : n + (Lib.itoa s.size).length + 1 + s.size = n + (encS s).length := by simp [encS]; omega
  have e2 : xs ++ Lib.byteCells (Lib.itoa s.size) ++ [Value.int .u8 58] ++ Lib.strCells s = xs ++ Lib.byteCells (encS s) := by simp [encS, Lib.byteCells, Lib.strCells]
  have hown5 : w4.ownsRow B 5 1 v4 (n + (encS s).length) (xs ++ Lib.byteCells (encS s)) := by rw [← e1, ← e2]; simpa using hown4
  clear e1 e2 hown4 hown3 hown2 hg4
  go_wp2
  go_ret
  exact ⟨v4, rfl, hown5, hK4⟩

end Go.Proofs.Qxb6627460aFmt
