/-
  zzAppendInt (13): some decimal text is appended: its first byte is the minus sign or a digit.
-/
import Derived.Test.Qxb6630900aCut
import Derived.Lib.AppendStr
import Derived.OwnWalk
import Derived.Maps.AppendAt
namespace Go.Proofs.Qxb6630900a
open Go.RowKit
set_option linter.unusedSimpArgs false
set_option linter.unusedVariables false

/-- The digits that the buffer holds from place k on. -/
def Digs (w : World) (B t k : Nat) (ds : List Int) : Prop :=
  ∃ cur : Array Value, w.heap[B]? = some (.cells cur t (0, 0)) ∧ cur.size = 20 ∧ k + ds.length = 20 ∧ (∀ d ∈ ds, 48 ≤ d ∧ d ≤ 57) ∧ ∀ j, j < ds.length → cur[k + j]? = some (.int .u8 (ds.getD j 0))

theorem Digs.has {w : World} {B t k : Nat} {ds : List Int} (h : Digs w B t k ds) (j : Nat) (hj : j < 20) : ∃ v, w.cell? ⟨B, j, none⟩ = some v := by
  obtain ⟨cur, hg, hs, _⟩ := h
  rw [cell_of_row _ _ _ _ t (0, 0) hg]
  exact ⟨cur[j], by simp [hs, hj]⟩

theorem Digs.frozen {w : World} {B t k : Nat} {ds : List Int} (h : Digs w B t k ds) (j : Nat) : w.frozen? ⟨B, j, none⟩ = false := by
  obtain ⟨cur, hg, hs, _⟩ := h
  simp [World.frozen?, hg]

theorem Digs.step {w : World} {B t k : Nat} {ds : List Int} (h : Digs w B t (k + 1) ds) (d : Int) (h1 : 48 ≤ d) (h2 : d ≤ 57) : Digs (w.setCell ⟨B, k, none⟩ (.int .u8 d)) B t k (d :: ds) := by
  obtain ⟨cur, hg, hs, hl, hd, hc⟩ := h
  refine ⟨_, heap_setCell_same w B k cur t _ hg, by simp [hs], by simp; omega, ?_, ?_⟩
  · intro x hx
    rcases List.mem_cons.1 hx with rfl | hx
    · exact ⟨h1, h2⟩
    · exact hd x hx
  · intro j hj
    cases j with
    | zero =>
      have : k < cur.size := by omega
      simp [this]
    | succ j =>
      have := hc j (by simpa using hj)
      rw [Array.getElem?_setIfInBounds_ne (by omega)]
      rw [show k + (j + 1) = k + 1 + j by omega, this]
      simp

theorem Digs.src {w : World} {B t k : Nat} {ds : List Int} (h : Digs w B t k ds) : ∀ j u, (ds.map (Value.int .u8))[j]? = some u → w.cell? ((⟨B, k, none⟩ : Addr).add j) = some u := by
  obtain ⟨cur, hg, hs, hl, hd, hc⟩ := h
  intro j u hu
  have hj : j < ds.length := by
    have := (List.getElem?_eq_some_iff.1 hu).1
    simpa using this
  rw [Addr.add_lit, cell_of_row _ _ _ _ t (0, 0) hg, hc j hj, ← hu]
  simp [List.getD, hj]

/-- A decimal text. -/
def IsNum (ds : List Int) : Prop := ∃ c r, ds = c :: r ∧ (c = 45 ∨ (48 ≤ c ∧ c ≤ 57)) ∧ ds.length ≤ 21

theorem ownsRow_below {w w' : World} {base e size n : Nat} {v : Value} {xs : List Value} (h : w.ownsRow base e size v n xs) (hb : Below w.heap.size w w') : w'.ownsRow base e size v n xs :=
  h.kept (row := none) ⟨hb.os, hb.tape, hb.output, hb.size, fun k hk _ => hb.block k hk⟩ (by cases hv : v.ownBlock <;> simp)

theorem pow_step (U k : Nat) (h : U < 10 ^ (k + 1)) : U / 10 < 10 ^ k := by
  rw [Nat.pow_succ] at h
  omega
theorem pow_pos (U k : Nat) (h : U < 10 ^ k) (h0 : U ≠ 0) : 1 ≤ k := by
  cases k with
  | zero => simp at h; omega
  | succ k => omega

theorem alen33 : Try.prog.arrayLen 33 = 20 := by kernel_rfl
theorem elem33 : Try.prog.elem 33 = 5 := by kernel_rfl
theorem ulen33 : Try.prog.underlying 33 = some (.array (Try.prog.arrayLen 33) (Try.prog.elem 33)) := by kernel_rfl
theorem run_cut33 (B k : Nat) (hk : k < 20) (w : World) :
    (Instr.sliceAt 33 (.pointer (some ⟨B, 0, none⟩)) (some (.int .i64 k)) none none).run Try.prog w = .ok (.slice (some ⟨B, k, none⟩) (20 - k) (20 - k)) w := by
  obtain ⟨i0, hi, hz0, hz1, hz2⟩ := info_parts Try.info5
  rw [run_sliceAt_array_l w 33 ⟨B, 0, none⟩ ulen33 .i64 k (by omega) (by rw [alen33]; omega)]
  rw [elem33, alen33]
  simp [sizeOf, typeInfo, hi, hz1, slicedAt, Addr.add_lit]
  omega

/-- What the loop over the digits holds at its head. -/
def IntRel (B : Nat) (w : World) (u i : Value) (wr : World) : Prop :=
  ∃ (U k : Nat) (ds : List Int), 1 ≤ k ∧ k ≤ 20 ∧ U ≤ 9223372036854775808 ∧ u = .int .u64 U ∧ i = .int .i64 k ∧ Hid (U < 10 ^ k) ∧ Digs wr B 33 k ds ∧ Below B w wr

/-- What the buffer's digits come to behind the append. -/
theorem int_out (base : Nat) (v : Value) (m : Nat) (xs : List Value) (w wr w' : World) (hown : w.ownsRow base 5 1 v m xs) (hbase : base ≤ w.heap.size) (hB : Below w.heap.size w wr) (hg : wr.grownBy w' v.ownBlock) : Below base w w' :=
  (hB.mono hbase).grown hg (Nat.le_trans hbase hB.size) (fun k hk => (hown.lt k hk).1)

set_option maxHeartbeats 800000 in
theorem appendInt_pos (base : Nat) (v : Value) (m : Nat) (xs : List Value) (n : Int) (w : World) (hown : w.ownsRow base 5 1 v m xs) (hbase : base ≤ w.heap.size) (hm : m ≤ 1000000000) (hn : 0 ≤ n) (hn2 : n ≤ 9223372036854775807) :
    Calls Try.prog 13 #[v, .int .i64 n] w fun e w' => ∃ v' ds, e = .returned v' ∧ IsNum ds ∧ w'.ownsRow base 5 1 v' (m + ds.length) (xs ++ ds.map (Value.int .u8)) ∧ Below base w w' := by
  obtain ⟨i0, hi, hz0, hz1, hz2⟩ := info_parts Try.info5
  go_enter Try.func13, Try.ntmps13
  go_wp2
  go_loopw [5, 7] (fun u i wr => IntRel w.heap.size w u i wr) (fun _ i _ => (intOf i).toNat)
  case atStart =>
    refine ⟨n.toNat, 20, [], by omega, by omega, by omega, by go_num, rfl, ?_, ⟨_, heap_alloc_new w _, rfl, rfl, by simp, by simp⟩, (Below.refl _ _).alloc (Nat.le_refl _) _⟩
    show n.toNat < 10 ^ 20
    omega
  case round =>
    obtain ⟨U, k, ds, hk1, hk2, hU2, rfl, rfl, hU, hD, hB⟩ := hrel
    obtain ⟨k, rfl⟩ : ∃ q, k = q + 1 := ⟨k - 1, by omega⟩
    obtain ⟨old, hold⟩ := hD.has k (by omega)
    have hfr := hD.frozen k
    have hD' := hD.step (48 + (U : Int) % 10) (by omega) (by omega)
    have hB' := hB.setCell (p := ⟨w.heap.size, k, none⟩) (Nat.le_refl _) (.int .u8 (48 + (U : Int) % 10))
    have hp := pow_step U k hU.out
    have HP : Hid (U / 10 < 10 ^ k) := hp
    clear hp
    by_cases hz : U / 10 = 0
    · have hzb : ((U : Int) / 10 == 0) = true := by simp; omega
      have hcut := run_cut33 w.heap.size k (by omega)
      have hlen : ds.length + 1 = 20 - k := by have := hD'; obtain ⟨_, _, _, hl, _⟩ := this; simp at hl; omega
      have hnum : IsNum ((48 + (U : Int) % 10) :: ds) := ⟨_, _, rfl, .inr ⟨by omega, by omega⟩, by simp; omega⟩
      have hown1 := ownsRow_below hown hB'
      have hsz := hB'.size
      go_wp2_with (at_builtin; refine wpList_append_own _ rfl _ _ 22 rfl base 5 i0 (.int .u8 0) 1 1 Try.underlying22 hi hz0 hz1 hz2 rfl (by decide) v m xs rfl hown1 ⟨w.heap.size, k, none⟩ (20 - k) (20 - k) (((48 + (U : Int) % 10) :: ds).map (Value.int .u8)) rfl ?c0 hD'.src (ints_oneCell _ _) ?c1 ?c2 ?c3 ?_)
      case c0 => simp; omega
      case c1 => unfold maxLen; omega
      case c2 => omega
      case c3 => omega
      · intro v' w1 hown' hgrow _
        go_wp2
        go_ret
        have hl2 : 20 - k = ((48 + (U : Int) % 10) :: ds).length := by simp; omega
        rw [hl2] at hown'
        exact ⟨v', _, rfl, hnum, hown', int_out base v m xs w _ w1 hown hbase hB' hgrow⟩
    · have hzb : ((U : Int) / 10 == 0) = false := by simp; omega
      have hk0 := pow_pos _ _ HP.out hz
      go_wp2
      go_roundw
      case rel => exact ⟨U / 10, k, _, hk0, by omega, by omega, by go_num, rfl, HP, hD', hB'⟩
      case measure => simp [intOf]

set_option maxHeartbeats 1600000 in
theorem appendInt_neg (base : Nat) (v : Value) (m : Nat) (xs : List Value) (n : Int) (w : World) (hown : w.ownsRow base 5 1 v m xs) (hbase : base ≤ w.heap.size) (hm : m ≤ 1000000000) (hn : n < 0) (hn2 : -9223372036854775808 ≤ n) :
    Calls Try.prog 13 #[v, .int .i64 n] w fun e w' => ∃ v' ds, e = .returned v' ∧ IsNum ds ∧ w'.ownsRow base 5 1 v' (m + ds.length) (xs ++ ds.map (Value.int .u8)) ∧ Below base w w' := by
  obtain ⟨i0, hi, hz0, hz1, hz2⟩ := info_parts Try.info5
  go_enter Try.func13, Try.ntmps13
  go_wp2_with (at_builtin; refine wpList_append_own _ rfl _ _ 22 rfl base 5 i0 (.int .u8 0) 1 1 Try.underlying22 hi hz0 hz1 hz2 rfl (by decide) v m xs rfl (hown.alloc _) ⟨w.heap.size, 0, none⟩ 1 1 [.int .u8 45] rfl rfl ?b0 ?b1 ?b2 ?b3 ?b4 ?_)
  case b0 => exact cell_one_new _ _ _
  case b1 => intro u hu; simp at hu; subst hu; rfl
  case b2 => unfold maxLen; omega
  case b3 => omega
  case b4 => simp; omega
  intro V W1 hown0 hgrow0 _
  have hB0 : Below base w W1 := (((Below.refl base w).alloc hbase _).grown hgrow0 (by simp; omega) (fun k hk => (hown.lt k hk).1))
  have hbase1 : base ≤ W1.heap.size := Nat.le_trans hbase hB0.size
  clear hgrow0
  go_wp2
  go_loopw [5, 7] (fun u i wr => IntRel W1.heap.size W1 u i wr) (fun _ i _ => (intOf i).toNat)
  case atStart =>
    refine ⟨(-n).toNat, 20, [], by omega, by omega, by omega, by go_num, rfl, ?_, ⟨_, heap_alloc_new W1 _, rfl, rfl, by simp, by simp⟩, (Below.refl _ _).alloc (Nat.le_refl _) _⟩
    show (-n).toNat < 10 ^ 20
    omega
  case round =>
    obtain ⟨U, k, ds, hk1, hk2, hU2, rfl, rfl, hU, hD, hB⟩ := hrel
    obtain ⟨k, rfl⟩ : ∃ q, k = q + 1 := ⟨k - 1, by omega⟩
    obtain ⟨old, hold⟩ := hD.has k (by omega)
    have hfr := hD.frozen k
    have hD' := hD.step (48 + (U : Int) % 10) (by omega) (by omega)
    have hB' := hB.setCell (p := ⟨W1.heap.size, k, none⟩) (Nat.le_refl _) (.int .u8 (48 + (U : Int) % 10))
    have hp := pow_step U k hU.out
    have HP : Hid (U / 10 < 10 ^ k) := hp
    clear hp
    by_cases hz : U / 10 = 0
    · have hzb : ((U : Int) / 10 == 0) = true := by simp; omega
      have hcut := run_cut33 W1.heap.size k (by omega)
      have hlen : ds.length + 1 = 20 - k := by have := hD'; obtain ⟨_, _, _, hl, _⟩ := this; simp at hl; omega
      have hnum : IsNum (45 :: (48 + (U : Int) % 10) :: ds) := ⟨_, _, rfl, .inl rfl, by simp; omega⟩
      have hown1 := ownsRow_below hown0 hB'
      have hsz := hB'.size
      go_wp2_with (at_builtin; refine wpList_append_own _ rfl _ _ 22 rfl base 5 i0 (.int .u8 0) 1 1 Try.underlying22 hi hz0 hz1 hz2 rfl (by decide) V (m + 1) (xs ++ [.int .u8 45]) rfl hown1 ⟨W1.heap.size, k, none⟩ (20 - k) (20 - k) (((48 + (U : Int) % 10) :: ds).map (Value.int .u8)) rfl ?c0 hD'.src (ints_oneCell _ _) ?c1 ?c2 ?c3 ?_)
      case c0 => simp; omega
      case c1 => unfold maxLen; omega
      case c2 => omega
      case c3 => omega
      · intro v' w1 hown' hgrow _
        go_wp2
        go_ret
        have hl2 : 20 - k = ((48 + (U : Int) % 10) :: ds).length := by simp; omega
        rw [hl2] at hown'
        have hbl := int_out base V (m + 1) (xs ++ [.int .u8 45]) W1 _ w1 hown0 hbase1 hB' hgrow
        have hl3 : m + 1 + ((48 + (U : Int) % 10) :: ds).length = m + (45 :: (48 + (U : Int) % 10) :: ds).length := by simp; omega
        rw [hl3] at hown'
        exact ⟨v', _, rfl, hnum, hown', hB0.trans hbl⟩
    · have hzb : ((U : Int) / 10 == 0) = false := by simp; omega
      have hk0 := pow_pos _ _ HP.out hz
      go_wp2
      go_roundw
      case rel => exact ⟨U / 10, k, _, hk0, by omega, by omega, by go_num, rfl, HP, hD', hB'⟩
      case measure => simp [intOf]

theorem appendInt_any (base : Nat) (v : Value) (m : Nat) (xs : List Value) (n : Int) (w : World) (hown : w.ownsRow base 5 1 v m xs) (hbase : base ≤ w.heap.size) (hm : m ≤ 1000000000) (hn : -9223372036854775808 ≤ n) (hn2 : n ≤ 9223372036854775807) :
    Calls Try.prog 13 #[v, .int .i64 n] w fun e w' => ∃ v' ds, e = .returned v' ∧ IsNum ds ∧ w'.ownsRow base 5 1 v' (m + ds.length) (xs ++ ds.map (Value.int .u8)) ∧ Below base w w' := by
  by_cases h : 0 ≤ n
  · exact appendInt_pos base v m xs n w hown hbase hm h hn2
  · exact appendInt_neg base v m xs n w hown hbase hm (by omega) hn

end Go.Proofs.Qxb6630900a
