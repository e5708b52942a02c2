/-
  zzText (10): the padding, the opening text, the number if it is asked for, the closing text, in a new slice.
-/
import Derived.Test.Qxb6630900aInt
namespace Go.Proofs.Qxb6630900a
open Go.RowKit
set_option linter.unusedSimpArgs false
set_option linter.unusedVariables false

/-- A string's bytes as numbers. -/
def bytesOf (s : ByteArray) : List Int := s.data.toList.map fun b => (b.toNat : Int)
theorem strCells_eq (s : ByteArray) : Lib.strCells s = (bytesOf s).map (Value.int .u8) := by simp [Lib.strCells, bytesOf]
theorem bytesOf_length (s : ByteArray) : (bytesOf s).length = s.size := by simp [bytesOf]

theorem IsNum.le {ds : List Int} (h : IsNum ds) : ds.length ≤ 21 := by obtain ⟨_, _, _, _, hd⟩ := h; exact hd

/-- An owned row of bytes is a slice of bytes. -/
theorem Row.of_own {w : World} {base : Nat} {v : Value} {n : Nat} {zs : List Int} (h : w.ownsRow base 5 1 v n (zs.map (Value.int .u8))) (hn : n ≤ 140737488355328) : ∃ a c, v = .slice a n c ∧ Row w a n zs := by
  have hl : zs.length = n := by have := h.1; simpa using this
  have H := h
  rcases h.2 with ⟨rfl, rfl⟩ | ⟨g, cap, cur, rfl, hb, hg, _⟩
  · exact ⟨none, 0, rfl, hl, hn, fun h => absurd rfl h⟩
  · refine ⟨some ⟨g, 0, none⟩, cap, rfl, hl, hn, fun _ => ⟨g, 0, rfl, fun j hj => ?_⟩⟩
    rw [Nat.zero_add, H.cellAt j (by omega)]
    simp [List.getD, show j < zs.length by omega]

theorem Row.below {w w' : World} {a : Option Addr} {n : Nat} {zs : List Int} (h : Row w a n zs) (hb : Below w.heap.size w w') : Row w' a n zs := by
  obtain ⟨h1, h2, h3⟩ := h
  refine ⟨h1, h2, fun h0 => ?_⟩
  obtain ⟨b, off, e, hc⟩ := h3 h0
  refine ⟨b, off, e, fun j hj => ?_⟩
  have := hc j hj
  rw [hb.cell (p := ⟨b, off + j, none⟩) (World.block_lt_of_cell? w _ this)]
  exact this

theorem Row.src {w : World} {a : Option Addr} {n : Nat} {zs : List Int} (h : Row w a n zs) : ∀ ad, a = some ad → ∀ j u, (zs.map (Value.int .u8))[j]? = some u → w.cell? (ad.add j) = some u := fun ad h' => h.get ad h'

set_option maxHeartbeats 800000 in
theorem text_num (a : Option Addr) (len : Nat) (zs : List Int) (s1 s2 : ByteArray) (n : Int) (w : World) (h : Row w a len zs) (hlen : len ≤ 65536) (h1 : s1.size ≤ 100) (h2 : s2.size ≤ 100) (hn : -9223372036854775808 ≤ n) (hn2 : n ≤ 9223372036854775807) :
    Calls Try.prog 10 #[.slice a len len, .string s1, .int .i64 n, .bool true, .string s2] w fun e w' => ∃ ds a' m c, e = .returned (.slice a' m c) ∧ IsNum ds ∧ Row w' a' m (zs ++ (bytesOf s1 ++ (ds ++ bytesOf s2))) ∧ Below w.heap.size w w' := by
  obtain ⟨i0, hi, hz0, hz1, hz2⟩ := info_parts Try.info5
  have hzl : zs.length = len := h.1
  have hnone : a = none → len = 0 ∧ len = 0 := by
    intro ha
    by_cases h0 : len = 0
    · exact ⟨h0, h0⟩
    · obtain ⟨b, off, e, _⟩ := h.2.2 h0
      rw [ha] at e; cases e
  go_enter Try.func10, Try.ntmps10
  go_wp2_with (at_make; refine wpList_make_own _ rfl _ _ 22 rfl w.heap.size 5 i0 (.int .u8 0) 1 Try.underlying22 hi hz0 hz1 _ _ _ (len + s1.size + 21 + s2.size) rfl rfl ?a0 ?a1 ?a2 ?a3 ?_)
  case a0 => omega
  case a1 => rw [hz2]; omega
  case a2 => unfold maxLen; omega
  case a3 => exact Nat.le_refl _
  intro w1 hown1 hg1
  have hB1 : Below w.heap.size w w1 := (Below.refl _ _).grown hg1 (Nat.le_refl _) (fun k hk => by cases hk)
  have hr1 := h.below hB1
  clear hg1
  go_wp2_with (at_builtin; refine wpList_append_fits_any _ rfl (.tmp 22) (.tmp 23) 22 rfl w.heap.size 5 i0 1 Try.underlying22 hi hz1 w.heap.size 0 (len + s1.size + 21 + s2.size) [] rfl hown1 a len len (zs.map (Value.int .u8)) rfl ?b0 hnone hr1.src (ints_oneCell _ _) ?b1 ?_)
  case b0 => simp [hzl]
  case b1 => omega
  intro w2 hown2 hg2
  have hB2 : Below w.heap.size w w2 := hB1.grown hg2 hB1.size (fun k hk => by injection hk with hk; omega)
  clear hg2 hown1 hr1
  go_wp2_with (at_builtin; refine Lib.wpList_append_own_string _ rfl (.tmp 25) (.tmp 26) 22 9 rfl w.heap.size 5 i0 Try.underlying22 Try.underlying9 hi hz0 hz1 hz2 (.slice (some ⟨w.heap.size, 0, none⟩) len (len + s1.size + 21 + s2.size)) len (zs.map (Value.int .u8)) rfl ?d0 s1 rfl ?d1 ?d2 ?d3 ?_)
  case d0 => exact hown2
  case d1 => unfold maxLen; omega
  case d2 => omega
  case d3 => exact hB2.size
  intro v3 w3 hown3 hg3 _
  have hB3 : Below w.heap.size w w3 := hB2.grown hg3 hB2.size (fun k hk => by simp [Value.ownBlock] at hk; omega)
  clear hg3 hown2
  have e3 : zs.map (Value.int .u8) ++ Lib.strCells s1 = (zs ++ bytesOf s1).map (Value.int .u8) := by rw [strCells_eq, List.map_append]
  have HE3 : Hid (zs.map (Value.int .u8) ++ Lib.strCells s1 = (zs ++ bytesOf s1).map (Value.int .u8)) := e3
  clear e3
  have c13 := appendInt_any w.heap.size v3 (len + s1.size) _ n w3 hown3 hB3.size (by omega) hn hn2
  go_wp2_with (first
    | (go_at_call 13; refine c13.mono ?_; rintro e w4 ⟨v4, ds, rfl, hnum, hown4, hB4⟩; have hB4' := hB3.trans hB4; have hdl := hnum.le)
    | (at_builtin; refine Lib.wpList_append_own_string _ rfl (.tmp 32) (.tmp 33) 22 9 rfl w.heap.size 5 i0 Try.underlying22 Try.underlying9 hi hz0 hz1 hz2 v4 (len + s1.size + ds.length) _ rfl hown4 s2 rfl ?f1 ?f2 ?f3 ?_))
  case f1 => unfold maxLen; omega
  case f2 => omega
  case f3 => exact hB4'.size
  intro v5 w5 hown5 hg5 _
  have hB5 : Below w.heap.size w w5 := hB4'.grown hg5 hB4'.size (fun k hk => (hown4.lt k hk).1)
  have e5 : zs.map (Value.int .u8) ++ Lib.strCells s1 ++ ds.map (Value.int .u8) ++ Lib.strCells s2 = (zs ++ (bytesOf s1 ++ (ds ++ bytesOf s2))).map (Value.int .u8) := by rw [strCells_eq, strCells_eq]; simp
  have hown6 : w5.ownsRow w.heap.size 5 1 v5 (len + s1.size + ds.length + s2.size) ((zs ++ (bytesOf s1 ++ (ds ++ bytesOf s2))).map (Value.int .u8)) := by
    rw [← e5]; simpa using hown5
  clear e5 hown5
  obtain ⟨a', c', hv5, hrow⟩ := Row.of_own hown6 (by omega)
  rw [hv5]
  clear hv5 hown6
  go_wp2
  go_ret
  exact ⟨ds, a', _, c', rfl, hnum, hrow, hB5⟩

set_option maxHeartbeats 800000 in
theorem text_bare (a : Option Addr) (len : Nat) (zs : List Int) (s1 s2 : ByteArray) (n : Int) (w : World) (h : Row w a len zs) (hlen : len ≤ 65536) (h1 : s1.size ≤ 100) (h2 : s2.size ≤ 100) (hn : -9223372036854775808 ≤ n) (hn2 : n ≤ 9223372036854775807) :
    Calls Try.prog 10 #[.slice a len len, .string s1, .int .i64 n, .bool false, .string s2] w fun e w' => ∃ a' m c, e = .returned (.slice a' m c) ∧ Row w' a' m (zs ++ (bytesOf s1 ++ bytesOf s2)) ∧ Below w.heap.size w w' := by
  obtain ⟨i0, hi, hz0, hz1, hz2⟩ := info_parts Try.info5
  have hzl : zs.length = len := h.1
  have hnone : a = none → len = 0 ∧ len = 0 := by
    intro ha
    by_cases h0 : len = 0
    · exact ⟨h0, h0⟩
    · obtain ⟨b, off, e, _⟩ := h.2.2 h0
      rw [ha] at e; cases e
  go_enter Try.func10, Try.ntmps10
  go_wp2_with (at_make; refine wpList_make_own _ rfl _ _ 22 rfl w.heap.size 5 i0 (.int .u8 0) 1 Try.underlying22 hi hz0 hz1 _ _ _ (len + s1.size + 21 + s2.size) rfl rfl ?a0 ?a1 ?a2 ?a3 ?_)
  case a0 => omega
  case a1 => rw [hz2]; omega
  case a2 => unfold maxLen; omega
  case a3 => exact Nat.le_refl _
  intro w1 hown1 hg1
  have hB1 : Below w.heap.size w w1 := (Below.refl _ _).grown hg1 (Nat.le_refl _) (fun k hk => by cases hk)
  have hr1 := h.below hB1
  clear hg1
  go_wp2_with (at_builtin; refine wpList_append_fits_any _ rfl (.tmp 22) (.tmp 23) 22 rfl w.heap.size 5 i0 1 Try.underlying22 hi hz1 w.heap.size 0 (len + s1.size + 21 + s2.size) [] rfl hown1 a len len (zs.map (Value.int .u8)) rfl ?b0 hnone hr1.src (ints_oneCell _ _) ?b1 ?_)
  case b0 => simp [hzl]
  case b1 => omega
  intro w2 hown2 hg2
  have hB2 : Below w.heap.size w w2 := hB1.grown hg2 hB1.size (fun k hk => by injection hk with hk; omega)
  clear hg2 hown1 hr1
  go_wp2_with (at_builtin; refine Lib.wpList_append_own_string _ rfl (.tmp 25) (.tmp 26) 22 9 rfl w.heap.size 5 i0 Try.underlying22 Try.underlying9 hi hz0 hz1 hz2 (.slice (some ⟨w.heap.size, 0, none⟩) len (len + s1.size + 21 + s2.size)) len (zs.map (Value.int .u8)) rfl ?d0 s1 rfl ?d1 ?d2 ?d3 ?_)
  case d0 => exact hown2
  case d1 => unfold maxLen; omega
  case d2 => omega
  case d3 => exact hB2.size
  intro v3 w3 hown3 hg3 _
  have hB3 : Below w.heap.size w w3 := hB2.grown hg3 hB2.size (fun k hk => by simp [Value.ownBlock] at hk; omega)
  clear hg3 hown2
  have e3 : zs.map (Value.int .u8) ++ Lib.strCells s1 = (zs ++ bytesOf s1).map (Value.int .u8) := by rw [strCells_eq, List.map_append]
  have HE3 : Hid (zs.map (Value.int .u8) ++ Lib.strCells s1 = (zs ++ bytesOf s1).map (Value.int .u8)) := e3
  clear e3
  go_wp2_with (at_builtin; refine Lib.wpList_append_own_string _ rfl (.tmp 32) (.tmp 33) 22 9 rfl w.heap.size 5 i0 Try.underlying22 Try.underlying9 hi hz0 hz1 hz2 _ (len + s1.size) _ rfl hown3 s2 rfl ?f1 ?f2 ?f3 ?_)
  case f1 => unfold maxLen; omega
  case f2 => omega
  case f3 => exact hB3.size
  intro v5 w5 hown5 hg5 _
  have hB5 : Below w.heap.size w w5 := hB3.grown hg5 hB3.size (fun k hk => (hown3.lt k hk).1)
  have e5 : zs.map (Value.int .u8) ++ Lib.strCells s1 ++ Lib.strCells s2 = (zs ++ (bytesOf s1 ++ bytesOf s2)).map (Value.int .u8) := by rw [strCells_eq, strCells_eq]; simp
  have hown6 : w5.ownsRow w.heap.size 5 1 v5 (len + s1.size + s2.size) ((zs ++ (bytesOf s1 ++ bytesOf s2)).map (Value.int .u8)) := by
    rw [← e5]; simpa using hown5
  clear e5 hown5
  obtain ⟨a', c', hv5, hrow⟩ := Row.of_own hown6 (by omega)
  rw [hv5]
  clear hv5 hown6
  go_wp2
  go_ret
  exact ⟨a', _, c', rfl, hrow, hB5⟩

end Go.Proofs.Qxb6630900a
