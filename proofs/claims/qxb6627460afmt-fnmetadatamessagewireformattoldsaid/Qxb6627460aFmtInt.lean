/-
  zzAppendInt (12): the decimal numeral is appended.
-/
import Derived.Test.Qxb6627460aFmtSame
import Derived.Lib.ItoaMem
namespace Go.Proofs.Qxb6627460aFmt
open Go.RowKit
set_option linter.unusedSimpArgs false
set_option linter.unusedVariables false

/-- The digits that the buffer holds from place k on. -/
def Digs (w : World) (B t k : Nat) (ds : List Int) : Prop :=
  ∃ cur : Array Value, w.heap[B]? = some (.cells cur t (0, 0)) ∧ cur.size = 20 ∧ k + ds.length = 20 ∧ ∀ j, j < ds.length → cur[k + j]? = some (.int .u8 (ds.getD j 0))

theorem Digs.has {w : World} {B t k : Nat} {ds : List Int} (h : Digs w B t k ds) (j : Nat) (hj : j < 20) : ∃ v, w.cell? ⟨B, j, none⟩ = some v := by
  obtain ⟨cur, hg, hs, _⟩ := h
  rw [cell_of_row _ _ _ _ t (0, 0) hg]
  exact ⟨cur[j], by simp [hs, hj]⟩
theorem Digs.frozen {w : World} {B t k : Nat} {ds : List Int} (h : Digs w B t k ds) (j : Nat) : w.frozen? ⟨B, j, none⟩ = false := by
  obtain ⟨cur, hg, hs, _⟩ := h
  simp [World.frozen?, hg]
theorem Digs.step {w : World} {B t k : Nat} {ds : List Int} (h : Digs w B t (k + 1) ds) (d : Int) : Digs (w.setCell ⟨B, k, none⟩ (.int .u8 d)) B t k (d :: ds) := by
  obtain ⟨cur, hg, hs, hl, hc⟩ := h
  refine ⟨_, heap_setCell_same w B k cur t _ hg, by simp [hs], by simp; omega, ?_⟩
  intro j hj
  cases j with
  | zero =>
    have : k < cur.size := by omega
    simp [this]
  | succ j =>
    have := hc j (by simpa using hj)
    rw [Array.getElem?_setIfInBounds_ne (by omega)]
    rw [show k + (j + 1) = k + 1 + j by omega, this]
    simp
theorem Digs.src {w : World} {B t k : Nat} {ds : List Int} (h : Digs w B t k ds) : ∀ j u, (ds.map (Value.int .u8))[j]? = some u → w.cell? ((⟨B, k, none⟩ : Addr).add j) = some u := by
  obtain ⟨cur, hg, hs, hl, hc⟩ := h
  intro j u hu
  have hj : j < ds.length := by
    have := (List.getElem?_eq_some_iff.1 hu).1
    simpa using this
  rw [Addr.add_lit, cell_of_row _ _ _ _ t (0, 0) hg, hc j hj, ← hu]
  simp [List.getD, hj]
theorem Digs.len {w : World} {B t k : Nat} {ds : List Int} (h : Digs w B t k ds) : k + ds.length = 20 := by
  obtain ⟨cur, hg, hs, hl, hc⟩ := h
  exact hl

theorem pow_step (U k : Nat) (h : U < 10 ^ (k + 1)) : U / 10 < 10 ^ k := by
  rw [Nat.pow_succ] at h
  omega
theorem pow_pos (U k : Nat) (h : U < 10 ^ k) (h0 : U ≠ 0) : 1 ≤ k := by
  cases k with
  | zero => simp at h; omega
  | succ k => omega
theorem digs_last (U : Nat) (h : U < 10) : toI (Lib.decDigits U) = [48 + (U : Int)] := by
  rw [Lib.decDigits_one h]
  have : (48 + U) % 256 = 48 + U := by omega
  simp [toI, UInt8.toNat_ofNat', this]
theorem digs_more (U : Nat) (h : ¬ U < 10) : toI (Lib.decDigits U) = toI (Lib.decDigits (U / 10)) ++ [48 + (U : Int) % 10] := by
  rw [Lib.decDigits, dif_neg h, toI_append]
  have : (48 + U % 10) % 256 = 48 + U % 10 := by omega
  simp [toI, UInt8.toNat_ofNat', this]

theorem alen42 : Tryf.prog.arrayLen 42 = 20 := by kernel_rfl
theorem elem42 : Tryf.prog.elem 42 = 5 := by kernel_rfl
theorem ulen42 : Tryf.prog.underlying 42 = some (.array (Tryf.prog.arrayLen 42) (Tryf.prog.elem 42)) := by kernel_rfl
theorem run_cut42 (B k : Nat) (hk : k < 20) (w : World) :
    (Instr.sliceAt 42 (.pointer (some ⟨B, 0, none⟩)) (some (.int .i64 k)) none none).run Tryf.prog w = .ok (.slice (some ⟨B, k, none⟩) (20 - k) (20 - k)) w := by
  obtain ⟨i0, hi, hz0, hz1, hz2⟩ := info_parts Tryf.info5
  rw [run_sliceAt_array_l w 42 ⟨B, 0, none⟩ ulen42 .i64 k (by omega) (by rw [alen42]; omega)]
  rw [elem42, alen42]
  simp [sizeOf, typeInfo, hi, hz1, slicedAt, Addr.add_lit]
  omega

/-- What the loop over the digits holds at its head. -/
def IntRel (U0 B : Nat) (w : World) (u i : Value) (wr : World) : Prop :=
  ∃ (U k : Nat) (ds : List Int), 1 ≤ k ∧ k ≤ 20 ∧ U ≤ 9223372036854775808 ∧ u = .int .u64 U ∧ i = .int .i64 k ∧ Hid (U < 10 ^ k) ∧ Hid (toI (Lib.decDigits U0) = toI (Lib.decDigits U) ++ ds) ∧ Digs wr B 42 k ds ∧ Below B w wr

/-- WHAT AN APPENDING CALL DOES. -/
def WroteI (B n : Nat) (xs : List Value) (l : List Int) (w : World) (e : Ending) (w' : World) : Prop :=
  ∃ v', e = .returned v' ∧ w'.ownsRow B 5 1 v' (n + l.length) (xs ++ l.map (Value.int .u8)) ∧ Below B w w'

theorem int_out (base : Nat) (v : Value) (m : Nat) (xs : List Value) (w wr w' : World) (hown : w.ownsRow base 5 1 v m xs) (hbase : base ≤ w.heap.size) (hB : Below w.heap.size w wr) (hg : wr.grownBy w' v.ownBlock) : Below base w w' :=
  (hB.mono hbase).grown hg (Nat.le_trans hbase hB.size) (fun k hk => (hown.lt k hk).1)

theorem wrap_neg (n : Int) (h : n < 0) (h2 : -9223372036854775808 ≤ n) : IntKind.u64.wrap (-IntKind.u64.wrap n) = ((-n).toNat : Int) := by
  simp only [IntKind.wrap_u64]
  omega

set_option maxRecDepth 100000 in
set_option maxHeartbeats 800000 in
theorem zint_pos (base : Nat) (v : Value) (m : Nat) (xs : List Value) (n : Int) (w : World) (hown : w.ownsRow base 5 1 v m xs) (hbase : base ≤ w.heap.size) (hm : m ≤ 1000000000) (hn : 0 ≤ n) (hn2 : n ≤ 9223372036854775807) :
    Calls Tryf.prog 12 #[v, .int .i64 n] w (WroteI base m xs (toI (Lib.decDigits n.toNat)) w) := by
  obtain ⟨i0, hi, hz0, hz1, hz2⟩ := info_parts Tryf.info5
  go_enter Tryf.func12, Tryf.ntmps12
  go_wp2
  go_loopw [5, 7] (fun u i wr => IntRel n.toNat w.heap.size w u i wr) (fun _ i _ => (intOf i).toNat)
  case atStart =>
    refine ⟨n.toNat, 20, [], by omega, by omega, by omega, by go_num, rfl, ?_, (by rw [List.append_nil] : _ = _), ⟨_, heap_alloc_new w _, rfl, rfl, by simp⟩, (Below.refl _ _).alloc (Nat.le_refl _) _⟩
    show n.toNat < 10 ^ 20
    omega
  case round =>
    obtain ⟨U, k, ds, hk1, hk2, hU2, rfl, rfl, hU, hdec, hD, hB⟩ := hrel
    obtain ⟨k, rfl⟩ : ∃ q, k = q + 1 := ⟨k - 1, by omega⟩
    obtain ⟨old, hold⟩ := hD.has k (by omega)
    have hfr := hD.frozen k
    by_cases hz : U < 10
    · have hD' := hD.step (48 + (U : Int))
      have hB' := hB.setCell (p := ⟨w.heap.size, k, none⟩) (Nat.le_refl _) (.int .u8 (48 + (U : Int)))
      have hcut := run_cut42 w.heap.size k (by omega)
      have hlen : ds.length + 1 = 20 - k := by have := hD'.len; simp at this; omega
      have hlast := digs_last U hz
      have hown1 := ownsRow_below hown hB'
      have hsz := hB'.size
      have HL : Hid (toI (Lib.decDigits U) = [48 + (U : Int)]) := hlast
      clear hlast
      have hown0 := hown
      clear hown
      go_wp2_with (at_builtin; go_must (refine wpList_append_own _ rfl (.tmp 36) (.tmp 38) 22 rfl base 5 i0 (.int .u8 0) 1 1 Tryf.underlying22 hi hz0 hz1 hz2 rfl (by decide) v m xs rfl hown1 ⟨w.heap.size, k, none⟩ (20 - k) (20 - k) (((48 + (U : Int)) :: ds).map (Value.int .u8)) rfl ?c0 hD'.src (ints_oneCell _ _) ?c1 ?c2 ?c3 ?_))
      case c0 => simp; omega
      case c1 => unfold maxLen; omega
      case c2 => omega
      case c3 => omega
      intro v' w1 hown' hgrow _
      have hl2 : 20 - k = ((48 + (U : Int)) :: ds).length := by simp; omega
      have hfin : WroteI base m xs (toI (Lib.decDigits n.toNat)) w (.returned v') w1 := by
        rw [hl2] at hown'
        refine ⟨v', rfl, ?_, int_out base v m xs w _ w1 hown0 hbase hB' hgrow⟩
        rw [hdec.out, HL.out]
        exact hown'
      go_wp2
      go_ret
      exact hfin
    · have hD' := hD.step (48 + (U : Int) % 10)
      have hB' := hB.setCell (p := ⟨w.heap.size, k, none⟩) (Nat.le_refl _) (.int .u8 (48 + (U : Int) % 10))
      have HP : Hid (U / 10 < 10 ^ k) := pow_step U k hU.out
      have HL : Hid (toI (Lib.decDigits U) = toI (Lib.decDigits (U / 10)) ++ [48 + (U : Int) % 10]) := digs_more U hz
      have hk0 := pow_pos _ _ HP.out (by omega)
      go_wp2
      go_roundw
      case rel => exact ⟨U / 10, k, _, hk0, by omega, by omega, by go_num, rfl, HP, (by rw [hdec.out, HL.out]; simp : _ = _), hD', hB'⟩
      case measure => simp [intOf]

set_option maxRecDepth 100000 in
set_option maxHeartbeats 1600000 in
theorem zint_neg (base : Nat) (v : Value) (m : Nat) (xs : List Value) (n : Int) (w : World) (hown : w.ownsRow base 5 1 v m xs) (hbase : base ≤ w.heap.size) (hm : m ≤ 1000000000) (hn : n < 0) (hn2 : -9223372036854775808 ≤ n) :
    Calls Tryf.prog 12 #[v, .int .i64 n] w (WroteI base m xs (45 :: toI (Lib.decDigits (-n).toNat)) w) := by
  obtain ⟨i0, hi, hz0, hz1, hz2⟩ := info_parts Tryf.info5
  go_enter Tryf.func12, Tryf.ntmps12
  go_wp2_with (at_builtin; go_must (refine wpList_append_own _ rfl (.tmp 12) (.tmp 13) 22 rfl base 5 i0 (.int .u8 0) 1 1 Tryf.underlying22 hi hz0 hz1 hz2 rfl (by decide) v m xs rfl (hown.alloc _) ⟨w.heap.size, 0, none⟩ 1 1 [.int .u8 45] rfl rfl ?b0 ?b1 ?b2 ?b3 ?b4 ?_))
  case b0 => exact cell_one_new _ _ _
  case b1 => intro u hu; simp at hu; subst hu; rfl
  case b2 => unfold maxLen; omega
  case b3 => omega
  case b4 => simp; omega
  intro V W1 hown0 hgrow0 _
  have hB0 : Below base w W1 := (((Below.refl base w).alloc hbase _).grown hgrow0 (by simp; omega) (fun k hk => (hown.lt k hk).1))
  have hbase1 : base ≤ W1.heap.size := Nat.le_trans hbase hB0.size
  clear hgrow0
  go_wp2
  go_loopw [5, 7] (fun u i wr => IntRel (-n).toNat W1.heap.size W1 u i wr) (fun _ i _ => (intOf i).toNat)
  case atStart =>
    refine ⟨(-n).toNat, 20, [], by omega, by omega, by omega, congrArg (Value.int .u64) (wrap_neg n hn hn2), rfl, ?_, (by rw [List.append_nil] : _ = _), ⟨_, heap_alloc_new W1 _, rfl, rfl, by simp⟩, (Below.refl _ _).alloc (Nat.le_refl _) _⟩
    show (-n).toNat < 10 ^ 20
    omega
  case round =>
    obtain ⟨U, k, ds, hk1, hk2, hU2, rfl, rfl, hU, hdec, hD, hB⟩ := hrel
    obtain ⟨k, rfl⟩ : ∃ q, k = q + 1 := ⟨k - 1, by omega⟩
    obtain ⟨old, hold⟩ := hD.has k (by omega)
    have hfr := hD.frozen k
    by_cases hz : U < 10
    · have hD' := hD.step (48 + (U : Int))
      have hB' := hB.setCell (p := ⟨W1.heap.size, k, none⟩) (Nat.le_refl _) (.int .u8 (48 + (U : Int)))
      have hcut := run_cut42 W1.heap.size k (by omega)
      have hlen : ds.length + 1 = 20 - k := by have := hD'.len; simp at this; omega
      have hlast := digs_last U hz
      have hown1 := ownsRow_below hown0 hB'
      have hsz := hB'.size
      have HL : Hid (toI (Lib.decDigits U) = [48 + (U : Int)]) := hlast
      clear hlast
      go_wp2_with (at_builtin; go_must (refine wpList_append_own _ rfl (.tmp 36) (.tmp 38) 22 rfl base 5 i0 (.int .u8 0) 1 1 Tryf.underlying22 hi hz0 hz1 hz2 rfl (by decide) V (m + 1) (xs ++ [.int .u8 45]) rfl hown1 ⟨W1.heap.size, k, none⟩ (20 - k) (20 - k) (((48 + (U : Int)) :: ds).map (Value.int .u8)) rfl ?c0 hD'.src (ints_oneCell _ _) ?c1 ?c2 ?c3 ?_))
      case c0 => simp; omega
      case c1 => unfold maxLen; omega
      case c2 => omega
      case c3 => omega
      intro v' w1 hown' hgrow _
      have hl2 : 20 - k = ((48 + (U : Int)) :: ds).length := by simp; omega
      have hfin : WroteI base m xs (45 :: toI (Lib.decDigits (-n).toNat)) w (.returned v') w1 := by
        rw [hl2] at hown'
        refine ⟨v', rfl, ?_, hB0.trans (int_out base V (m + 1) (xs ++ [.int .u8 45]) W1 _ w1 hown0 hbase1 hB' hgrow)⟩
        rw [hdec.out, HL.out]
        have e1 : m + (45 :: ([48 + (U : Int)] ++ ds)).length = m + 1 + ((48 + (U : Int)) :: ds).length := by simp; omega
        rw [e1]
        simpa using hown'
      go_wp2
      go_ret
      exact hfin
    · have hD' := hD.step (48 + (U : Int) % 10)
      have hB' := hB.setCell (p := ⟨W1.heap.size, k, none⟩) (Nat.le_refl _) (.int .u8 (48 + (U : Int) % 10))
      have HP : Hid (U / 10 < 10 ^ k) := pow_step U k hU.out
      have HL : Hid (toI (Lib.decDigits U) = toI (Lib.decDigits (U / 10)) ++ [48 + (U : Int) % 10]) := digs_more U hz
      have hk0 := pow_pos _ _ HP.out (by omega)
      go_wp2
      go_roundw
      case rel => exact ⟨U / 10, k, _, hk0, by omega, by omega, by go_num, rfl, HP, (by rw [hdec.out, HL.out]; simp : _ = _), hD', hB'⟩
      case measure => simp [intOf]

theorem zint_any (base : Nat) (v : Value) (m : Nat) (xs : List Value) (n : Int) (w : World) (hn : I64 n) (hown : w.ownsRow base 5 1 v m xs) (hbase : base ≤ w.heap.size) (hm : m ≤ 1000000000) :
    Calls Tryf.prog 12 #[v, .int .i64 n] w (WroteI base m xs (toI (Lib.itoa n)) w) := by
  by_cases h : 0 ≤ n
  · have e : toI (Lib.itoa n) = toI (Lib.decDigits n.toNat) := by rw [Lib.itoa, if_neg (by omega)]
    rw [e]
    exact zint_pos base v m xs n w hown hbase hm h hn.2
  · have e : toI (Lib.itoa n) = 45 :: toI (Lib.decDigits (-n).toNat) := by
      rw [Lib.itoa, if_pos (by omega), show n.natAbs = (-n).toNat by omega]
      rfl
    rw [e]
    exact zint_neg base v m xs n w hown hbase hm (by omega) hn.1

end Go.Proofs.Qxb6627460aFmt
