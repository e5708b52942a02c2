/-
  zzWireModel (7): the wire's bytes, by hand.
-/
import Derived.Test.Qxb6627460aFmtInt
namespace Go.Proofs.Qxb6627460aFmt
open Go.RowKit
set_option linter.unusedSimpArgs false
set_option linter.unusedVariables false

/-- What the model holds under way: its own row, these bytes; below nothing is changed. -/
structure Has (w w' : World) (v : Value) (L : List Int) : Prop where
  own : w'.ownsRow w.heap.size 5 1 v L.length (L.map (Value.int .u8))
  below : Below w.heap.size w w'
theorem Has.str {w W w1 : World} {v v1 : Value} {L : List Int} (H : Has w W v L) (s : ByteArray) (ho : w1.ownsRow w.heap.size 5 1 v1 (L.length + s.size) (L.map (Value.int .u8) ++ Lib.strCells s)) (hg : W.grownBy w1 v.ownBlock) : Has w w1 v1 (L ++ toI s.data.toList) := by
  refine ⟨?_, H.below.grown hg H.below.size (fun k hk => (H.own.lt k hk).1)⟩
  have e1 : (L ++ toI s.data.toList).length = L.length + s.size := by simp [toI]
  have e2 : (L ++ toI s.data.toList).map (Value.int .u8) = L.map (Value.int .u8) ++ Lib.strCells s := by simp [toI, Lib.strCells, Lib.byteCells]
  rw [e1, e2]; exact ho
theorem Has.byte {w W w1 : World} {v v1 : Value} {L : List Int} (H : Has w W v L) (c : Int) (o : Obj) (ho : w1.ownsRow w.heap.size 5 1 v1 (L.length + 1) (L.map (Value.int .u8) ++ [.int .u8 c])) (hg : (W.alloc o).grownBy w1 v.ownBlock) : Has w w1 v1 (L ++ [c]) := by
  refine ⟨?_, (H.below.alloc H.below.size o).grown hg (by have := H.below.size; simp; omega) (fun k hk => (H.own.lt k hk).1)⟩
  have e1 : (L ++ [c]).length = L.length + 1 := by simp
  rw [e1, List.map_append]; exact ho
theorem Has.row {w W w1 : World} {v v1 : Value} {L : List Int} (H : Has w W v L) (l : List Int) (m : Nat) (hm : l.length = m) (ho : w1.ownsRow w.heap.size 5 1 v1 (L.length + m) (L.map (Value.int .u8) ++ l.map (Value.int .u8))) (hg : W.grownBy w1 v.ownBlock) : Has w w1 v1 (L ++ l) := by
  refine ⟨?_, H.below.grown hg H.below.size (fun k hk => (H.own.lt k hk).1)⟩
  rw [List.length_append, List.map_append, hm]; exact ho
theorem Has.num {w W w1 : World} {v v1 : Value} {L : List Int} (H : Has w W v L) (l : List Int) (ho : w1.ownsRow w.heap.size 5 1 v1 (L.length + l.length) (L.map (Value.int .u8) ++ l.map (Value.int .u8))) (hb : Below w.heap.size W w1) : Has w w1 v1 (L ++ l) := by
  refine ⟨?_, H.below.trans hb⟩
  rw [List.length_append, List.map_append]; exact ho
theorem Has.name {w w1 : World} {v : Value} {X : List Int} (H : Has w w1 v X) (n : Nat) (h : X.length ≤ n) : ∃ L, Hid (X = L) ∧ L.length ≤ n ∧ Has w w1 v L := ⟨X, rfl, h, H⟩
theorem itoa_le {n : Int} (h : I64 n) : (toI (Lib.itoa n)).length ≤ 30 := by
  have := Lib.itoa_length_le n h.1 h.2
  rw [toI_length]; omega

/-- What the model hands back. -/
def Wired (zs : List Int) (w : World) (e : Ending) (w' : World) : Prop :=
  ∃ a c, e = .returned (.slice a zs.length c) ∧ Row w' a zs.length zs ∧ Below w.heap.size w w'
theorem Has.wired {w w1 : World} {v : Value} {L : List Int} (H : Has w w1 v L) (h : L.length ≤ 1000000000) : Wired L w (.returned v) w1 := by
  obtain ⟨a, c, rfl, hr, _⟩ := Row.of_own H.own (by omega)
  exact ⟨a, c, rfl, hr, H.below⟩

/-- The bytes, as the model lays them. -/
def wire2 (t p id : Int) : List Int := [id] ++ toI [100, 56, 58, 109, 115, 103, 95, 116, 121, 112, 101, 105] ++ toI (Lib.itoa t) ++ toI [101, 53, 58, 112, 105, 101, 99, 101, 105] ++ toI (Lib.itoa p) ++ [101]
def wire3 (t p s id : Int) : List Int := wire2 t p id ++ toI [49, 48, 58, 116, 111, 116, 97, 108, 95, 115, 105, 122, 101, 105] ++ toI (Lib.itoa s) ++ [101]

theorem itoa8 : Lib.itoa (kMsg.size : Int) = [56] := by
  show Lib.itoa ((8 : Nat) : Int) = [56]
  rw [Lib.itoa_nonneg, Lib.decDigits_one (by omega)]
  rfl
theorem itoa5 : Lib.itoa (kPiece.size : Int) = [53] := by
  show Lib.itoa ((5 : Nat) : Int) = [53]
  rw [Lib.itoa_nonneg, Lib.decDigits_one (by omega)]
  rfl
theorem itoa10 : Lib.itoa (kTotal.size : Int) = [49, 48] := by
  show Lib.itoa ((10 : Nat) : Int) = [49, 48]
  rw [Lib.itoa_nonneg, Lib.decDigits_two (by omega) (by omega)]
  rfl
theorem encS1 : encS kMsg = [56, 58, 109, 115, 103, 95, 116, 121, 112, 101] := by rw [encS, itoa8]; rfl
theorem encS2 : encS kPiece = [53, 58, 112, 105, 101, 99, 101] := by rw [encS, itoa5]; rfl
theorem encS3 : encS kTotal = [49, 48, 58, 116, 111, 116, 97, 108, 95, 115, 105, 122, 101] := by rw [encS, itoa10]; rfl
theorem b101 : ((UInt8.toNat 101 : Nat) : Int) = 101 := by rfl
theorem wire2_eq (t p id : Int) : wire2 t p id ++ [101] = id :: toI (encD (ps2 t p)) := by
  have e : encP (ps2 t p) = (encS kMsg ++ encInt t) ++ ((encS kPiece ++ encInt p) ++ []) := rfl
  simp only [encD, e, encS1, encS2, encInt, wire2, toI, b101, List.map_append, List.map_cons, List.map_nil, List.append_assoc, List.cons_append, List.nil_append, List.append_nil]
theorem wire3_eq (t p s id : Int) : wire3 t p s id ++ [101] = id :: toI (encD (ps3 t p s)) := by
  have e : encP (ps3 t p s) = (encS kMsg ++ encInt t) ++ ((encS kPiece ++ encInt p) ++ ((encS kTotal ++ encInt s) ++ [])) := rfl
  simp only [encD, e, encS1, encS2, encS3, encInt, wire3, wire2, toI, b101, List.map_append, List.map_cons, List.map_nil, List.append_assoc, List.cons_append, List.nil_append, List.append_nil]

set_option maxRecDepth 100000 in
set_option maxHeartbeats 1600000 in
theorem wire_no (t p s id : Int) (da : Option Addr) (dl dc : Nat) (w : World) (ht : I64 t) (hp : I64 p) (hne : (t == 1) = false) (zs : List Int) (HZ : Hid (wire2 t p id ++ [101] = zs)) :
    Calls Tryf.prog 7 #[.int .i64 t, .int .i64 p, .int .i64 s, .slice da dl dc, .int .u8 id] w (Wired zs w) := by
  obtain ⟨i0, hi, hz0, hz1, hz2⟩ := info_parts Tryf.info5
  obtain ⟨L0, E0⟩ : ∃ L, Hid ([id] = L) := ⟨_, rfl⟩
  have hb0 : L0.length ≤ 1 := by rw [← E0.out]; exact Nat.le_refl _
  have H0 : Has w (w.alloc (.cells #[.int .u8 id] 5)) (.slice (some ⟨w.heap.size, 0, none⟩) 1 1) L0 := by
    refine ⟨?_, (Below.refl _ _).alloc (Nat.le_refl _) _⟩
    rw [← E0.out]
    exact World.ownsRow_lit (base := w.heap.size) (e := 5) (size := 1) w #[.int .u8 id] 1 (Nat.le_refl _) (by simp [maxLen]) rfl
  go_enter Tryf.func7, Tryf.ntmps7
  go_wp2_with (at_builtin; go_must (refine Lib.wpList_append_own_string _ rfl (.tmp 14) (.const (.string ⟨#[100, 56, 58, 109, 115, 103, 95, 116, 121, 112, 101, 105]⟩)) 22 9 rfl w.heap.size 5 i0 Tryf.underlying22 Tryf.underlying9 hi hz0 hz1 hz2 _ L0.length _ rfl H0.own ⟨#[100, 56, 58, 109, 115, 103, 95, 116, 121, 112, 101, 105]⟩ rfl ?f1 ?f2 H0.below.size ?_))
  case f1 => show L0.length + 12 ≤ maxLen; unfold maxLen; omega
  case f2 => show _ ≤ _; first | omega | decide | (show L0.length + 12 ≤ _; omega)
  intro v1 w1 ho1 hg1 _
  have H1 := H0.str ⟨#[100, 56, 58, 109, 115, 103, 95, 116, 121, 112, 101, 105]⟩ ho1 hg1
  obtain ⟨L1, E1, hb1, H1⟩ := H1.name 13 (by rw [List.length_append, toI_length]; show L0.length + 12 ≤ 13; omega)
  clear ho1 hg1 H0
  have c2 := zint_any w.heap.size v1 L1.length _ t w1 ht H1.own H1.below.size (by omega)
  go_wp2_with fail
  refine c2.mono ?_
  rintro e w2 ⟨v2, rfl, ho2, hB2⟩
  have H2 := H1.num _ ho2 hB2
  obtain ⟨L2, E2, hb2, H2⟩ := H2.name 43 (by rw [List.length_append]; have := itoa_le ht; omega)
  clear ho2 hB2 H1 c2
  go_wp2_with (at_builtin; go_must (refine Lib.wpList_append_own_string _ rfl (.tmp 19) (.const (.string ⟨#[101, 53, 58, 112, 105, 101, 99, 101, 105]⟩)) 22 9 rfl w.heap.size 5 i0 Tryf.underlying22 Tryf.underlying9 hi hz0 hz1 hz2 v2 L2.length _ rfl H2.own ⟨#[101, 53, 58, 112, 105, 101, 99, 101, 105]⟩ rfl ?f1 ?f2 H2.below.size ?_))
  case f1 => show L2.length + 9 ≤ maxLen; unfold maxLen; omega
  case f2 => show _ ≤ _; first | omega | decide | (show L2.length + 9 ≤ _; omega)
  intro v3 w3 ho3 hg3 _
  have H3 := H2.str ⟨#[101, 53, 58, 112, 105, 101, 99, 101, 105]⟩ ho3 hg3
  obtain ⟨L3, E3, hb3, H3⟩ := H3.name 52 (by rw [List.length_append, toI_length]; show L2.length + 9 ≤ 52; omega)
  clear ho3 hg3 H2
  have c4 := zint_any w.heap.size v3 L3.length _ p w3 hp H3.own H3.below.size (by omega)
  go_wp2_with fail
  refine c4.mono ?_
  rintro e w4 ⟨v4, rfl, ho4, hB4⟩
  have H4 := H3.num _ ho4 hB4
  obtain ⟨L4, E4, hb4, H4⟩ := H4.name 82 (by rw [List.length_append]; have := itoa_le hp; omega)
  clear ho4 hB4 H3 c4
  go_wp2_with (at_builtin; go_must (refine wpList_append_own _ rfl (.tmp 24) (.tmp 25) 22 rfl w.heap.size 5 i0 (.int .u8 0) 1 1 Tryf.underlying22 hi hz0 hz1 hz2 rfl (by decide) v4 L4.length _ rfl (H4.own.alloc _) ⟨w4.heap.size, 0, none⟩ 1 1 [.int .u8 101] rfl rfl (cell_one_new _ _ _) ?d1 ?d2 ?d3 ?d4 ?_))
  case d1 => intro u hu; simp at hu; subst hu; rfl
  case d2 => unfold maxLen; omega
  case d3 => omega
  case d4 => have := H4.below.size; simp; omega
  intro v5 w5 ho5 hg5 _
  have H5 := H4.byte 101 _ ho5 hg5
  obtain ⟨L5, E5, hb5, H5⟩ := H5.name 83 (by rw [List.length_append]; simp; omega)
  clear ho5 hg5 H4
  go_wp2_with (at_builtin; go_must (refine wpList_append_own _ rfl (.tmp 37) (.tmp 38) 22 rfl w.heap.size 5 i0 (.int .u8 0) 1 1 Tryf.underlying22 hi hz0 hz1 hz2 rfl (by decide) v5 L5.length _ rfl (H5.own.alloc _) ⟨w5.heap.size, 0, none⟩ 1 1 [.int .u8 101] rfl rfl (cell_one_new _ _ _) ?d1 ?d2 ?d3 ?d4 ?_))
  case d1 => intro u hu; simp at hu; subst hu; rfl
  case d2 => unfold maxLen; omega
  case d3 => omega
  case d4 => have := H5.below.size; simp; omega
  intro v6 w6 ho6 hg6 _
  have H6 := H5.byte 101 _ ho6 hg6
  obtain ⟨L6, E6, hb6, H6⟩ := H6.name 84 (by rw [List.length_append]; simp; omega)
  clear ho6 hg6 H5
  have hz : wire2 t p id ++ [101] = L6 := by
    rw [← E6.out, ← E5.out, ← E4.out, ← E3.out, ← E2.out, ← E1.out, ← E0.out]
    simp only [wire2]
  have hz2 : zs = L6 := by rw [← HZ.out, hz]
  clear hz
  have HF : Hid (Wired L6 w (.returned v6) w6) := H6.wired (by omega)
  have HG : Hid (Wired zs w (.returned v6) w6) := by rw [hz2]; exact HF.out
  clear hz2 H6 HF
  go_wp2
  go_ret
  exact HG.out

set_option maxRecDepth 100000 in
set_option maxHeartbeats 1600000 in
theorem wire_nil (t p s id : Int) (w : World) (ht : I64 t) (hp : I64 p) (hs : I64 s) (hne : (t == 1) = true) (zs : List Int) (HZ : Hid (wire3 t p s id ++ [101] = zs)) :
    Calls Tryf.prog 7 #[.int .i64 t, .int .i64 p, .int .i64 s, .slice none 0 0, .int .u8 id] w (Wired zs w) := by
  obtain ⟨i0, hi, hz0, hz1, hz2⟩ := info_parts Tryf.info5
  obtain ⟨L0, E0⟩ : ∃ L, Hid ([id] = L) := ⟨_, rfl⟩
  have hb0 : L0.length ≤ 1 := by rw [← E0.out]; exact Nat.le_refl _
  have H0 : Has w (w.alloc (.cells #[.int .u8 id] 5)) (.slice (some ⟨w.heap.size, 0, none⟩) 1 1) L0 := by
    refine ⟨?_, (Below.refl _ _).alloc (Nat.le_refl _) _⟩
    rw [← E0.out]
    exact World.ownsRow_lit (base := w.heap.size) (e := 5) (size := 1) w #[.int .u8 id] 1 (Nat.le_refl _) (by simp [maxLen]) rfl
  go_enter Tryf.func7, Tryf.ntmps7
  go_wp2_with (at_builtin; go_must (refine Lib.wpList_append_own_string _ rfl (.tmp 14) (.const (.string ⟨#[100, 56, 58, 109, 115, 103, 95, 116, 121, 112, 101, 105]⟩)) 22 9 rfl w.heap.size 5 i0 Tryf.underlying22 Tryf.underlying9 hi hz0 hz1 hz2 _ L0.length _ rfl H0.own ⟨#[100, 56, 58, 109, 115, 103, 95, 116, 121, 112, 101, 105]⟩ rfl ?f1 ?f2 H0.below.size ?_))
  case f1 => show L0.length + 12 ≤ maxLen; unfold maxLen; omega
  case f2 => show _ ≤ _; first | omega | decide | (show L0.length + 12 ≤ _; omega)
  intro v1 w1 ho1 hg1 _
  have H1 := H0.str ⟨#[100, 56, 58, 109, 115, 103, 95, 116, 121, 112, 101, 105]⟩ ho1 hg1
  obtain ⟨L1, E1, hb1, H1⟩ := H1.name 13 (by rw [List.length_append, toI_length]; show L0.length + 12 ≤ 13; omega)
  clear ho1 hg1 H0
  have c2 := zint_any w.heap.size v1 L1.length _ t w1 ht H1.own H1.below.size (by omega)
  go_wp2_with fail
  refine c2.mono ?_
  rintro e w2 ⟨v2, rfl, ho2, hB2⟩
  have H2 := H1.num _ ho2 hB2
  obtain ⟨L2, E2, hb2, H2⟩ := H2.name 43 (by rw [List.length_append]; have := itoa_le ht; omega)
  clear ho2 hB2 H1 c2
  go_wp2_with (at_builtin; go_must (refine Lib.wpList_append_own_string _ rfl (.tmp 19) (.const (.string ⟨#[101, 53, 58, 112, 105, 101, 99, 101, 105]⟩)) 22 9 rfl w.heap.size 5 i0 Tryf.underlying22 Tryf.underlying9 hi hz0 hz1 hz2 v2 L2.length _ rfl H2.own ⟨#[101, 53, 58, 112, 105, 101, 99, 101, 105]⟩ rfl ?f1 ?f2 H2.below.size ?_))
  case f1 => show L2.length + 9 ≤ maxLen; unfold maxLen; omega
  case f2 => show _ ≤ _; first | omega | decide | (show L2.length + 9 ≤ _; omega)
  intro v3 w3 ho3 hg3 _
  have H3 := H2.str ⟨#[101, 53, 58, 112, 105, 101, 99, 101, 105]⟩ ho3 hg3
  obtain ⟨L3, E3, hb3, H3⟩ := H3.name 52 (by rw [List.length_append, toI_length]; show L2.length + 9 ≤ 52; omega)
  clear ho3 hg3 H2
  have c4 := zint_any w.heap.size v3 L3.length _ p w3 hp H3.own H3.below.size (by omega)
  go_wp2_with fail
  refine c4.mono ?_
  rintro e w4 ⟨v4, rfl, ho4, hB4⟩
  have H4 := H3.num _ ho4 hB4
  obtain ⟨L4, E4, hb4, H4⟩ := H4.name 82 (by rw [List.length_append]; have := itoa_le hp; omega)
  clear ho4 hB4 H3 c4
  go_wp2_with (at_builtin; go_must (refine wpList_append_own _ rfl (.tmp 24) (.tmp 25) 22 rfl w.heap.size 5 i0 (.int .u8 0) 1 1 Tryf.underlying22 hi hz0 hz1 hz2 rfl (by decide) v4 L4.length _ rfl (H4.own.alloc _) ⟨w4.heap.size, 0, none⟩ 1 1 [.int .u8 101] rfl rfl (cell_one_new _ _ _) ?d1 ?d2 ?d3 ?d4 ?_))
  case d1 => intro u hu; simp at hu; subst hu; rfl
  case d2 => unfold maxLen; omega
  case d3 => omega
  case d4 => have := H4.below.size; simp; omega
  intro v5 w5 ho5 hg5 _
  have H5 := H4.byte 101 _ ho5 hg5
  obtain ⟨L5, E5, hb5, H5⟩ := H5.name 83 (by rw [List.length_append]; simp; omega)
  clear ho5 hg5 H4
  go_wp2_with (at_builtin; go_must (refine Lib.wpList_append_own_string _ rfl (.tmp 29) (.const (.string ⟨#[49, 48, 58, 116, 111, 116, 97, 108, 95, 115, 105, 122, 101, 105]⟩)) 22 9 rfl w.heap.size 5 i0 Tryf.underlying22 Tryf.underlying9 hi hz0 hz1 hz2 v5 L5.length _ rfl H5.own ⟨#[49, 48, 58, 116, 111, 116, 97, 108, 95, 115, 105, 122, 101, 105]⟩ rfl ?f1 ?f2 H5.below.size ?_))
  case f1 => show L5.length + 14 ≤ maxLen; unfold maxLen; omega
  case f2 => show _ ≤ _; first | omega | decide | (show L5.length + 14 ≤ _; omega)
  intro v6 w6 ho6 hg6 _
  have H6 := H5.str ⟨#[49, 48, 58, 116, 111, 116, 97, 108, 95, 115, 105, 122, 101, 105]⟩ ho6 hg6
  obtain ⟨L6, E6, hb6, H6⟩ := H6.name 97 (by rw [List.length_append, toI_length]; show L5.length + 14 ≤ 97; omega)
  clear ho6 hg6 H5
  have c7 := zint_any w.heap.size v6 L6.length _ s w6 hs H6.own H6.below.size (by omega)
  go_wp2_with fail
  refine c7.mono ?_
  rintro e w7 ⟨v7, rfl, ho7, hB7⟩
  have H7 := H6.num _ ho7 hB7
  obtain ⟨L7, E7, hb7, H7⟩ := H7.name 127 (by rw [List.length_append]; have := itoa_le hs; omega)
  clear ho7 hB7 H6 c7
  go_wp2_with (at_builtin; go_must (refine wpList_append_own _ rfl (.tmp 34) (.tmp 35) 22 rfl w.heap.size 5 i0 (.int .u8 0) 1 1 Tryf.underlying22 hi hz0 hz1 hz2 rfl (by decide) v7 L7.length _ rfl (H7.own.alloc _) ⟨w7.heap.size, 0, none⟩ 1 1 [.int .u8 101] rfl rfl (cell_one_new _ _ _) ?d1 ?d2 ?d3 ?d4 ?_))
  case d1 => intro u hu; simp at hu; subst hu; rfl
  case d2 => unfold maxLen; omega
  case d3 => omega
  case d4 => have := H7.below.size; simp; omega
  intro v8 w8 ho8 hg8 _
  have H8 := H7.byte 101 _ ho8 hg8
  obtain ⟨L8, E8, hb8, H8⟩ := H8.name 128 (by rw [List.length_append]; simp; omega)
  clear ho8 hg8 H7
  go_wp2_with (at_builtin; go_must (refine wpList_append_own _ rfl (.tmp 37) (.tmp 38) 22 rfl w.heap.size 5 i0 (.int .u8 0) 1 1 Tryf.underlying22 hi hz0 hz1 hz2 rfl (by decide) v8 L8.length _ rfl (H8.own.alloc _) ⟨w8.heap.size, 0, none⟩ 1 1 [.int .u8 101] rfl rfl (cell_one_new _ _ _) ?d1 ?d2 ?d3 ?d4 ?_))
  case d1 => intro u hu; simp at hu; subst hu; rfl
  case d2 => unfold maxLen; omega
  case d3 => omega
  case d4 => have := H8.below.size; simp; omega
  intro v9 w9 ho9 hg9 _
  have H9 := H8.byte 101 _ ho9 hg9
  obtain ⟨L9, E9, hb9, H9⟩ := H9.name 129 (by rw [List.length_append]; simp; omega)
  clear ho9 hg9 H8
  go_wp2_with (at_builtin; go_must (refine wpList_append_own_none rfl (.tmp 42) (.tmp 43) 22 rfl w.heap.size 5 i0 1 Tryf.underlying22 hi v9 L9.length _ rfl H9.own rfl ?_))
  have hz : wire3 t p s id ++ [101] = L9 := by
    rw [← E9.out, ← E8.out, ← E7.out, ← E6.out, ← E5.out, ← E4.out, ← E3.out, ← E2.out, ← E1.out, ← E0.out]
    simp only [wire3, wire2]
  have hz2 : zs = L9 := by rw [← HZ.out, hz]
  clear hz
  have HF : Hid (Wired L9 w (.returned v9) w9) := H9.wired (by omega)
  have HG : Hid (Wired zs w (.returned v9) w9) := by rw [hz2]; exact HF.out
  clear hz2 H9 HF
  go_wp2
  go_ret
  exact HG.out

set_option maxRecDepth 100000 in
set_option maxHeartbeats 1600000 in
theorem wire_some (t p s id : Int) (y : Addr) (dl dc : Nat) (dz : List Int) (w : World) (ht : I64 t) (hp : I64 p) (hs : I64 s) (hne : (t == 1) = true) (hdr : Row w (some y) dl dz) (hdl : dl ≤ 1048576) (zs : List Int) (HZ : Hid (wire3 t p s id ++ [101] ++ dz = zs)) :
    Calls Tryf.prog 7 #[.int .i64 t, .int .i64 p, .int .i64 s, .slice (some y) dl dc, .int .u8 id] w (Wired zs w) := by
  obtain ⟨i0, hi, hz0, hz1, hz2⟩ := info_parts Tryf.info5
  have HD : Hid (Row w (some y) dl dz) := hdr
  have hdz : dz.length = dl := hdr.1
  clear hdr
  obtain ⟨L0, E0⟩ : ∃ L, Hid ([id] = L) := ⟨_, rfl⟩
  have hb0 : L0.length ≤ 1 := by rw [← E0.out]; exact Nat.le_refl _
  have H0 : Has w (w.alloc (.cells #[.int .u8 id] 5)) (.slice (some ⟨w.heap.size, 0, none⟩) 1 1) L0 := by
    refine ⟨?_, (Below.refl _ _).alloc (Nat.le_refl _) _⟩
    rw [← E0.out]
    exact World.ownsRow_lit (base := w.heap.size) (e := 5) (size := 1) w #[.int .u8 id] 1 (Nat.le_refl _) (by simp [maxLen]) rfl
  go_enter Tryf.func7, Tryf.ntmps7
  go_wp2_with (at_builtin; go_must (refine Lib.wpList_append_own_string _ rfl (.tmp 14) (.const (.string ⟨#[100, 56, 58, 109, 115, 103, 95, 116, 121, 112, 101, 105]⟩)) 22 9 rfl w.heap.size 5 i0 Tryf.underlying22 Tryf.underlying9 hi hz0 hz1 hz2 _ L0.length _ rfl H0.own ⟨#[100, 56, 58, 109, 115, 103, 95, 116, 121, 112, 101, 105]⟩ rfl ?f1 ?f2 H0.below.size ?_))
  case f1 => show L0.length + 12 ≤ maxLen; unfold maxLen; omega
  case f2 => show _ ≤ _; first | omega | decide | (show L0.length + 12 ≤ _; omega)
  intro v1 w1 ho1 hg1 _
  have H1 := H0.str ⟨#[100, 56, 58, 109, 115, 103, 95, 116, 121, 112, 101, 105]⟩ ho1 hg1
  obtain ⟨L1, E1, hb1, H1⟩ := H1.name 13 (by rw [List.length_append, toI_length]; show L0.length + 12 ≤ 13; omega)
  clear ho1 hg1 H0
  have c2 := zint_any w.heap.size v1 L1.length _ t w1 ht H1.own H1.below.size (by omega)
  go_wp2_with fail
  refine c2.mono ?_
  rintro e w2 ⟨v2, rfl, ho2, hB2⟩
  have H2 := H1.num _ ho2 hB2
  obtain ⟨L2, E2, hb2, H2⟩ := H2.name 43 (by rw [List.length_append]; have := itoa_le ht; omega)
  clear ho2 hB2 H1 c2
  go_wp2_with (at_builtin; go_must (refine Lib.wpList_append_own_string _ rfl (.tmp 19) (.const (.string ⟨#[101, 53, 58, 112, 105, 101, 99, 101, 105]⟩)) 22 9 rfl w.heap.size 5 i0 Tryf.underlying22 Tryf.underlying9 hi hz0 hz1 hz2 v2 L2.length _ rfl H2.own ⟨#[101, 53, 58, 112, 105, 101, 99, 101, 105]⟩ rfl ?f1 ?f2 H2.below.size ?_))
  case f1 => show L2.length + 9 ≤ maxLen; unfold maxLen; omega
  case f2 => show _ ≤ _; first | omega | decide | (show L2.length + 9 ≤ _; omega)
  intro v3 w3 ho3 hg3 _
  have H3 := H2.str ⟨#[101, 53, 58, 112, 105, 101, 99, 101, 105]⟩ ho3 hg3
  obtain ⟨L3, E3, hb3, H3⟩ := H3.name 52 (by rw [List.length_append, toI_length]; show L2.length + 9 ≤ 52; omega)
  clear ho3 hg3 H2
  have c4 := zint_any w.heap.size v3 L3.length _ p w3 hp H3.own H3.below.size (by omega)
  go_wp2_with fail
  refine c4.mono ?_
  rintro e w4 ⟨v4, rfl, ho4, hB4⟩
  have H4 := H3.num _ ho4 hB4
  obtain ⟨L4, E4, hb4, H4⟩ := H4.name 82 (by rw [List.length_append]; have := itoa_le hp; omega)
  clear ho4 hB4 H3 c4
  go_wp2_with (at_builtin; go_must (refine wpList_append_own _ rfl (.tmp 24) (.tmp 25) 22 rfl w.heap.size 5 i0 (.int .u8 0) 1 1 Tryf.underlying22 hi hz0 hz1 hz2 rfl (by decide) v4 L4.length _ rfl (H4.own.alloc _) ⟨w4.heap.size, 0, none⟩ 1 1 [.int .u8 101] rfl rfl (cell_one_new _ _ _) ?d1 ?d2 ?d3 ?d4 ?_))
  case d1 => intro u hu; simp at hu; subst hu; rfl
  case d2 => unfold maxLen; omega
  case d3 => omega
  case d4 => have := H4.below.size; simp; omega
  intro v5 w5 ho5 hg5 _
  have H5 := H4.byte 101 _ ho5 hg5
  obtain ⟨L5, E5, hb5, H5⟩ := H5.name 83 (by rw [List.length_append]; simp; omega)
  clear ho5 hg5 H4
  go_wp2_with (at_builtin; go_must (refine Lib.wpList_append_own_string _ rfl (.tmp 29) (.const (.string ⟨#[49, 48, 58, 116, 111, 116, 97, 108, 95, 115, 105, 122, 101, 105]⟩)) 22 9 rfl w.heap.size 5 i0 Tryf.underlying22 Tryf.underlying9 hi hz0 hz1 hz2 v5 L5.length _ rfl H5.own ⟨#[49, 48, 58, 116, 111, 116, 97, 108, 95, 115, 105, 122, 101, 105]⟩ rfl ?f1 ?f2 H5.below.size ?_))
  case f1 => show L5.length + 14 ≤ maxLen; unfold maxLen; omega
  case f2 => show _ ≤ _; first | omega | decide | (show L5.length + 14 ≤ _; omega)
  intro v6 w6 ho6 hg6 _
  have H6 := H5.str ⟨#[49, 48, 58, 116, 111, 116, 97, 108, 95, 115, 105, 122, 101, 105]⟩ ho6 hg6
  obtain ⟨L6, E6, hb6, H6⟩ := H6.name 97 (by rw [List.length_append, toI_length]; show L5.length + 14 ≤ 97; omega)
  clear ho6 hg6 H5
  have c7 := zint_any w.heap.size v6 L6.length _ s w6 hs H6.own H6.below.size (by omega)
  go_wp2_with fail
  refine c7.mono ?_
  rintro e w7 ⟨v7, rfl, ho7, hB7⟩
  have H7 := H6.num _ ho7 hB7
  obtain ⟨L7, E7, hb7, H7⟩ := H7.name 127 (by rw [List.length_append]; have := itoa_le hs; omega)
  clear ho7 hB7 H6 c7
  go_wp2_with (at_builtin; go_must (refine wpList_append_own _ rfl (.tmp 34) (.tmp 35) 22 rfl w.heap.size 5 i0 (.int .u8 0) 1 1 Tryf.underlying22 hi hz0 hz1 hz2 rfl (by decide) v7 L7.length _ rfl (H7.own.alloc _) ⟨w7.heap.size, 0, none⟩ 1 1 [.int .u8 101] rfl rfl (cell_one_new _ _ _) ?d1 ?d2 ?d3 ?d4 ?_))
  case d1 => intro u hu; simp at hu; subst hu; rfl
  case d2 => unfold maxLen; omega
  case d3 => omega
  case d4 => have := H7.below.size; simp; omega
  intro v8 w8 ho8 hg8 _
  have H8 := H7.byte 101 _ ho8 hg8
  obtain ⟨L8, E8, hb8, H8⟩ := H8.name 128 (by rw [List.length_append]; simp; omega)
  clear ho8 hg8 H7
  go_wp2_with (at_builtin; go_must (refine wpList_append_own _ rfl (.tmp 37) (.tmp 38) 22 rfl w.heap.size 5 i0 (.int .u8 0) 1 1 Tryf.underlying22 hi hz0 hz1 hz2 rfl (by decide) v8 L8.length _ rfl (H8.own.alloc _) ⟨w8.heap.size, 0, none⟩ 1 1 [.int .u8 101] rfl rfl (cell_one_new _ _ _) ?d1 ?d2 ?d3 ?d4 ?_))
  case d1 => intro u hu; simp at hu; subst hu; rfl
  case d2 => unfold maxLen; omega
  case d3 => omega
  case d4 => have := H8.below.size; simp; omega
  intro v9 w9 ho9 hg9 _
  have H9 := H8.byte 101 _ ho9 hg9
  obtain ⟨L9, E9, hb9, H9⟩ := H9.name 129 (by rw [List.length_append]; simp; omega)
  clear ho9 hg9 H8
  have hd := HD.out.below H9.below
  go_wp2_with (at_builtin; go_must (refine wpList_append_own _ rfl (.tmp 42) (.tmp 43) 22 rfl w.heap.size 5 i0 (.int .u8 0) 1 1 Tryf.underlying22 hi hz0 hz1 hz2 rfl (by decide) v9 L9.length _ rfl H9.own y dl dc (dz.map (Value.int .u8)) rfl ?d0 (hd.get y rfl) (ints_oneCell _ _) ?d2 ?d3 H9.below.size ?_))
  case d0 => simp [hdz]
  case d2 => unfold maxLen; omega
  case d3 => omega
  intro v10 w10 ho10 hg10 _
  have H10 := H9.row dz dl hdz ho10 hg10
  obtain ⟨L10, E10, hb10, H10⟩ := H10.name 2000000 (by rw [List.length_append]; omega)
  clear ho10 hg10 H9 hd
  have hz : wire3 t p s id ++ [101] ++ dz = L10 := by
    rw [← E10.out, ← E9.out, ← E8.out, ← E7.out, ← E6.out, ← E5.out, ← E4.out, ← E3.out, ← E2.out, ← E1.out, ← E0.out]
    simp only [wire3, wire2]
  have hz2 : zs = L10 := by rw [← HZ.out, hz]
  clear hz
  have HF : Hid (Wired L10 w (.returned v10) w10) := H10.wired (by omega)
  have HG : Hid (Wired zs w (.returned v10) w10) := by rw [hz2]; exact HF.out
  clear hz2 H10 HF
  go_wp2
  go_ret
  exact HG.out

/-- The model lays what Message lays. -/
theorem wire_any (t p s id : Int) (da : Option Addr) (dl dc : Nat) (dz : List Int) (w : World) (ht : I64 t) (hp : I64 p) (hs : I64 s) (hdr : Row w da dl dz) (hdl : dl ≤ 1048576) (hnil : da = none → dl = 0 ∧ dc = 0) :
    Calls Tryf.prog 7 #[.int .i64 t, .int .i64 p, .int .i64 s, .slice da dl dc, .int .u8 id] w (Wired (sentI t p s id dz) w) := by
  by_cases hne : (t == 1) = true
  · rw [sentI, if_pos hne]
    cases da with
    | none =>
      obtain ⟨rfl, rfl⟩ := hnil rfl
      obtain rfl : dz = [] := List.length_eq_zero_iff.1 hdr.1
      rw [List.append_nil]
      exact wire_nil t p s id w ht hp hs hne _ (wire3_eq t p s id)
    | some y =>
      refine wire_some t p s id y dl dc dz w ht hp hs hne hdr hdl _ ?_
      show _ = _
      rw [wire3_eq]; rfl
  · rw [sentI, if_neg hne]
    exact wire_no t p s id da dl dc w ht hp (by simpa using hne) _ (wire2_eq t p id)

end Go.Proofs.Qxb6627460aFmt
