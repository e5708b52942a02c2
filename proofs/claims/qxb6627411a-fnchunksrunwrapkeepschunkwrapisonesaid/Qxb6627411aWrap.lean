/-
  wrapNodes (11).
-/
import Derived.Test.Qxb6627411aJoin
namespace Go.Proofs.Qxb6627411a
open Go.RowKit
set_option linter.unusedSimpArgs false
set_option linter.unusedVariables false

/-- A node with another signature. -/
def Nd.withS (n : Nd) (a : Option Addr) (l c : Nat) : Nd := ⟨n.k, a, l, c, n.o, n.s, n.e⟩
theorem Nd.arr_setS (n : Nd) (a : Option Addr) (l c : Nat) : n.arr.setIfInBounds 35 (.slice a l c) = (n.withS a l c).arr := rfl
theorem run_build53_w (t : Int) (w : World) : (Instr.build 53 #[(2, .int .i64 1), (6, .int .i64 t)]).run Try.prog w = .ok (.agg (Nd.arr ⟨1, none, 0, 0, 0, 0, t⟩)) w := by kernel_rfl

/-- The nodes so far. -/
def wl (r x : Nd) (xs : List Nd) (k : Nat) : List Nd := r :: x :: (xs.take k).tail.map fun y => y.withE (y.e + 1)
theorem step_w (r x : Nd) (xs : List Nd) (k : Nat) (h1 : 1 ≤ k) (h2 : k < xs.length) (nd : Nd) (hnd : xs.getD k N0 = nd) : flat (wl r x xs k) ++ (nd.withE (nd.e + 1)).cells = flat (wl r x xs (k + 1)) := by
  have e : wl r x xs (k + 1) = wl r x xs k ++ [nd.withE (nd.e + 1)] := by
    unfold wl
    rw [take_tail xs k h1 h2, hnd]
    simp
  rw [e, flat_snoc]
theorem wl_one (r x : Nd) (xs : List Nd) : wl r x xs 1 = [r, x] := by
  have e : (xs.take 1).tail = [] := by cases xs <;> simp
  simp [wl, e]
theorem wl_end (r x : Nd) (xs : List Nd) (k : Nat) (h : xs.length ≤ k) : wl r x xs k = r :: x :: xs.tail.map fun y => y.withE (y.e + 1) := by
  simp only [wl, take_all xs k h]

/-- What wrapNodes hands back. -/
def Wrapped (xs : List Nd) (la : Nat) (signed : Bool) (w : World) (e : Ending) (w' : World) : Prop :=
  ∃ r x ao c, e = .returned (.slice ao (2 + (la - 1)) c) ∧ pv x = (!signed, ((2 + (la - 1) : Nat) : Int)) ∧ NRow w' ao (r :: x :: xs.tail.map fun y => y.withE (y.e + 1)) ∧ Below w.heap.size w w'

attribute [local go_sem] Nd.arr_setE Nd.arr38 Nd.arr_setS Nd.arr35

set_option maxHeartbeats 1600000 in
theorem wrap_n (ao : Option Addr) (la ca : Nat) (xs : List Nd) (w : World) (hA : ZRow w ao la xs) (hla : la ≤ 1100000) (ho : Pl.Ok (xs.map pv)) (ha : la ≠ 0) :
    Calls Try.prog 11 #[.slice ao la ca, .bool false] w (Wrapped xs la false w) := by
  obtain ⟨i0, hi, hz0, hz1, hz2⟩ := info_parts Try.info53
  have HA : Hid (ZRow w ao la xs) := hA
  have HO : Hid (Pl.Ok (xs.map pv)) := ho
  clear hA ho
  have hab : ((la : Int) == 0) = false := by simp; omega
  go_enter Try.func11, Try.ntmps11
  go_wp2_with (at_make; refine wpList_make_own _ rfl _ _ 29 rfl w.heap.size 53 i0 (.agg Zn) 40 Try.underlying29 hi hz0 hz1 _ _ _ (2 + (la - 1)) rfl rfl ?a0 ?a1 ?a2 ?a3 ?_)
  case a0 => omega
  case a1 => rw [hz2]; omega
  case a2 => unfold maxLen; omega
  case a3 => exact Nat.le_refl _
  intro w1 hown1 hg1
  have hB1 : Below w.heap.size w w1 := (Below.refl _ _).grown hg1 (Nat.le_refl _) (fun k hk => by cases hk)
  clear hg1
  have cR := root_any ao la ca xs w1 (HA.out.below hB1)
  obtain ⟨rt, hrt⟩ : ∃ rt, rootNd xs = rt := ⟨_, rfl⟩
  rw [hrt] at cR
  clear hrt
  go_wp2_with (first
    | (go_at_call 14; refine cR.mono ?_; rintro e W2 ⟨rfl, hB2⟩; have hown2 := ownsRow_below hown1 hB2)
    | (refine op_is (.alloc 53) rfl ?_; refine wpList_alloc_named rfl 53 rfl Zn run_zero53 ?_)
    | (refine op_is (.store 53 (.tmp 8) (.tmp 21)) rfl ?_; refine wpList_store_last rfl 53 (.tmp 8) (.tmp 21) rfl W2.heap.size Zn rt.arr rfl rfl rfl Try.size53 rfl (Nd.arr_one _) ?_)
    | (refine op_is (.load 53 (.tmp 8)) rfl ?_; refine wpList_load_last rfl 53 (.tmp 8) rfl W2.heap.size (rt.withE ((la : Int) + 1)).arr rfl rfl _ Try.underlying53 rfl Try.size53 ?_)
    | (refine op_is (.buildSlice 29 1 #[(0, .tmp 25)]) rfl ?_; refine wpList_buildSlice_named rfl 29 53 _ 1 rfl #[(0, .agg (rt.withE ((la : Int) + 1)).arr)] (by simp only [List.map_toArray, List.map_cons, List.map_nil]; rfl) _ (run_slice1 (rt.withE ((la : Int) + 1))) ?_)
    | (at_builtin; go_must (refine wpList_append_own _ rfl (.tmp 24) (.tmp 26) 29 rfl w.heap.size 53 i0 (.agg Zn) 40 104 Try.underlying29 hi hz0 hz1 hz2 rfl (by decide) _ 0 [] rfl ((hown2.alloc _).alloc _) ⟨_, 0, none⟩ 1 1 (rt.withE ((la : Int) + 1)).cells rfl rfl ?b0 (cells_one _) ?b1 ?b2 ?b3 ?_))
    | fail)
  case b0 => exact one_new _ _ _ rfl
  case b1 => unfold maxLen; omega
  case b2 => omega
  case b3 => have := hB1.size; have := hB2.size; simp; omega
  intro v3 w3 hown3 hg3 _
  have hB3 : Below w.heap.size w w3 := (((hB1.trans (hB2.mono hB1.size)).alloc (Nat.le_trans hB1.size hB2.size) _).alloc (by have := hB1.size; have := hB2.size; simp; omega) _).grown hg3 (by have := hB1.size; have := hB2.size; simp; omega) (fun k hk => by simp [Value.ownBlock] at hk; omega)
  obtain ⟨r, hr⟩ : ∃ r, rt.withE ((la : Int) + 1) = r := ⟨_, rfl⟩
  have hown3' : w3.ownsRow w.heap.size 53 40 v3 1 (flat [r]) := by rw [← hr]; simpa [flat] using hown3
  clear hg3 hr hown3 hown2 cR hown1
  go_wp2_with (first
    | (refine op_is (.build 53 #[(2, .const (.int .i64 1)), (6, .tmp 28)]) rfl ?_; refine wpList_build_named rfl 53 _ rfl #[(2, .int .i64 1), (6, .int .i64 ((la : Int) + 1))] (by simp only [List.map_toArray, List.map_cons, List.map_nil]; rfl) (Nd.arr ⟨1, none, 0, 0, 0, 0, ((la : Int) + 1)⟩) (run_build53_w ((la : Int) + 1)) ?_)
    | (refine op_is (.alloc 53) rfl ?_; refine wpList_alloc_named rfl 53 rfl Zn run_zero53 ?_)
    | (refine op_is (.store 53 (.tmp 9) (.tmp 29)) rfl ?_; refine wpList_store_last rfl 53 (.tmp 9) (.tmp 29) rfl w3.heap.size Zn (Nd.arr ⟨1, none, 0, 0, 0, 0, ((la : Int) + 1)⟩) rfl rfl rfl Try.size53 rfl (Nd.arr_one _) ?_)
    | (refine op_is (.load 53 (.tmp 9)) rfl ?_; refine wpList_load_last rfl 53 (.tmp 9) rfl w3.heap.size (Nd.mk 1 none 0 0 0 0 ((la : Int) + 1)).arr rfl rfl _ Try.underlying53 rfl Try.size53 ?_)
    | (refine op_is (.buildSlice 29 1 #[(0, .tmp 34)]) rfl ?_; refine wpList_buildSlice_named rfl 29 53 _ 1 rfl #[(0, .agg (Nd.mk 1 none 0 0 0 0 ((la : Int) + 1)).arr)] (by simp only [List.map_toArray, List.map_cons, List.map_nil]; rfl) _ (run_slice1 (Nd.mk 1 none 0 0 0 0 ((la : Int) + 1))) ?_)
    | (at_builtin; go_must (refine wpList_append_own _ rfl (.tmp 33) (.tmp 35) 29 rfl w.heap.size 53 i0 (.agg Zn) 40 104 Try.underlying29 hi hz0 hz1 hz2 rfl (by decide) _ 1 _ rfl ((hown3'.alloc _).alloc _) ⟨_, 0, none⟩ 1 1 (Nd.mk 1 none 0 0 0 0 ((la : Int) + 1)).cells rfl rfl ?d0 (cells_one _) ?d1 ?d2 ?d3 ?_))
    | fail)
  case d0 => exact one_new _ _ _ rfl
  case d1 => unfold maxLen; omega
  case d2 => omega
  case d3 => have := hB3.size; simp; omega
  intro v5 w5 hown5 hg5 _
  have hB5 : Below w.heap.size w w5 := (((hB3.alloc hB3.size _).alloc (by have := hB3.size; simp; omega) _).grown hg5 (by have := hB3.size; simp; omega) (fun j hj => (hown3'.lt j hj).1))
  obtain ⟨x, hx⟩ : ∃ x, (Nd.mk 1 none 0 0 0 0 ((la : Int) + 1)) = x := ⟨_, rfl⟩
  have hown5' : w5.ownsRow w.heap.size 53 40 v5 2 (flat [r, x]) := by rw [← hx]; simpa [flat] using hown5
  have HX : Hid (pv x = (!false, ((2 + (la - 1) : Nat) : Int))) := by
    show _ = _
    rw [← hx]
    simp [pv, Nd.withS]
    try omega
  clear hg5 hx hown5 hown3'
  go_wp2
  go_loopw [7, 10] (fun v i wr => ∃ k : Nat, i = .int .i64 k ∧ 1 ≤ k ∧ (k ≤ la ∨ k = 1) ∧ wr.ownsRow w.heap.size 53 40 v (k + 1) (flat (wl r x xs k)) ∧ Below w.heap.size w wr) (fun _ i _ => la - (intOf i).toNat)
  case atStart =>
    refine ⟨1, rfl, by omega, by omega, ?_, hB5⟩
    rw [wl_one]; exact hown5'
  case round =>
    obtain ⟨k, rfl, hk1, hk2, hown, hBk⟩ := hrel
    by_cases hlt : k < la
    · obtain ⟨b, off, rfl, nd, hnd, c1, c2, c3, c4, c5⟩ := (HA.out.below hBk).at k hlt
      have HN : Hid (xs.getD k N0 = nd) := hnd
      have hoq := HO.out k hk1 (by have := HA.out.1; simp; omega)
      rw [pv_at xs k (by have := HA.out.1; omega), hnd] at hoq
      have hl3 : (xs.map pv).length = la := by have := HA.out.1; simp [this]
      rw [hl3] at hoq
      clear hnd hl3
      obtain ⟨kk, aa, ll, cc, oo, ss, ee⟩ := nd
      simp only [pv] at c1 c2 c3 c4 c5 hoq
      have ho1 := hoq.1
      have ho2 := hoq.2
      clear hoq
      have hbw : b < wr.heap.size := World.block_lt_of_cell? _ _ c1
      have cT := toNode_any kk aa ll cc oo ss ee wr
      go_wp2_with (first
        | (go_at_call 13; refine cT.mono ?_; rintro e W4 ⟨rfl, hB4⟩; have hown4 := ownsRow_below hown hB4; have hb4 := Nat.lt_of_lt_of_le hbw hB4.size; have c6 := (hB4.cell (p := ⟨b, off + k * 5 + 4, none⟩) hbw).trans c5)
        | (refine op_is (.alloc 53) rfl ?_; refine wpList_alloc_named rfl 53 rfl Zn run_zero53 ?_)
        | (refine op_is (.store 53 (.tmp 11) (.tmp 47)) rfl ?_; refine wpList_store_last rfl 53 (.tmp 11) (.tmp 47) rfl W4.heap.size Zn (Nd.arr ⟨kk, aa, ll, cc, oo, ss, ee⟩) rfl rfl rfl Try.size53 rfl (Nd.arr_one _) ?_)
        | (refine op_is (.load 53 (.tmp 11)) rfl ?_; refine wpList_load_last rfl 53 (.tmp 11) rfl W4.heap.size (Nd.withE ⟨kk, aa, ll, cc, oo, ss, ee⟩ (ee + 1)).arr rfl rfl _ Try.underlying53 rfl Try.size53 ?_)
        | (refine op_is (.buildSlice 29 1 #[(0, .tmp 56)]) rfl ?_; refine wpList_buildSlice_named rfl 29 53 _ 1 rfl #[(0, .agg (Nd.withE ⟨kk, aa, ll, cc, oo, ss, ee⟩ (ee + 1)).arr)] (by simp only [List.map_toArray, List.map_cons, List.map_nil]; rfl) _ (run_slice1 (Nd.withE ⟨kk, aa, ll, cc, oo, ss, ee⟩ (ee + 1))) ?_)
        | (at_builtin; go_must (refine wpList_append_own _ rfl (.tmp 55) (.tmp 57) 29 rfl w.heap.size 53 i0 (.agg Zn) 40 104 Try.underlying29 hi hz0 hz1 hz2 rfl (by decide) _ (k + 1) _ rfl ((hown4.alloc _).alloc _) ⟨_, 0, none⟩ 1 1 (Nd.withE ⟨kk, aa, ll, cc, oo, ss, ee⟩ (ee + 1)).cells rfl rfl ?e0 (cells_one _) ?e1 ?e2 ?e3 ?_))
        | fail)
      case e0 => exact one_new _ _ _ rfl
      case e1 => unfold maxLen; omega
      case e2 => omega
      case e3 => have := hBk.size; have := hB4.size; simp; omega
      intro v5 w5 hown5 hg5 _
      have hB5 : Below w.heap.size w w5 := (((hBk.trans (hB4.mono hBk.size)).alloc (Nat.le_trans hBk.size hB4.size) _).alloc (by have := hBk.size; have := hB4.size; simp; omega) _).grown hg5 (by have := hBk.size; have := hB4.size; simp; omega) (fun j hj => (hown.lt j hj).1)
      have hst := step_w r x xs k hk1 (by have := HA.out.1; omega) _ HN.out
      simp only [] at hst
      rw [hst] at hown5
      clear hg5 hown4 cT hown c1 c2 c3 c4 c5 c6 hst
      go_wp2
      go_roundw
      case rel => exact ⟨k + 1, by go_num, by omega, by omega, hown5, hB5⟩
      case measure => simp [intOf]; omega
    · rw [wl_end r x xs k (by have := HA.out.1; omega)] at hown
      have hkm : k + 1 = 2 + (la - 1) := by omega
      rw [hkm] at hown
      clear hkm
      obtain ⟨ao', c', hv, hrow, _⟩ := NRow.of_own hown (by omega)
      rw [hv]
      clear hv hown
      go_wp2
      go_ret
      exact ⟨r, x, ao', c', rfl, HX, hrow, hBk⟩

set_option maxHeartbeats 1600000 in
theorem wrap_n0 (ao : Option Addr) (la ca : Nat) (xs : List Nd) (w : World) (hA : ZRow w ao la xs) (hla : la ≤ 1100000) (ho : Pl.Ok (xs.map pv)) (ha : la < 1) :
    Calls Try.prog 11 #[.slice ao la ca, .bool false] w (Wrapped xs la false w) := by
  obtain ⟨i0, hi, hz0, hz1, hz2⟩ := info_parts Try.info53
  have HA : Hid (ZRow w ao la xs) := hA
  have HO : Hid (Pl.Ok (xs.map pv)) := ho
  clear hA ho
  have hab : ((la : Int) == 0) = true := by simp; omega
  go_enter Try.func11, Try.ntmps11
  go_wp2_with (at_make; refine wpList_make_own _ rfl _ _ 29 rfl w.heap.size 53 i0 (.agg Zn) 40 Try.underlying29 hi hz0 hz1 _ _ _ (2 + (la - 1)) rfl rfl ?a0 ?a1 ?a2 ?a3 ?_)
  case a0 => omega
  case a1 => rw [hz2]; omega
  case a2 => unfold maxLen; omega
  case a3 => exact Nat.le_refl _
  intro w1 hown1 hg1
  have hB1 : Below w.heap.size w w1 := (Below.refl _ _).grown hg1 (Nat.le_refl _) (fun k hk => by cases hk)
  clear hg1
  have cR := root_any ao la ca xs w1 (HA.out.below hB1)
  obtain ⟨rt, hrt⟩ : ∃ rt, rootNd xs = rt := ⟨_, rfl⟩
  rw [hrt] at cR
  clear hrt
  go_wp2_with (first
    | (go_at_call 14; refine cR.mono ?_; rintro e W2 ⟨rfl, hB2⟩; have hown2 := ownsRow_below hown1 hB2)
    | (refine op_is (.alloc 53) rfl ?_; refine wpList_alloc_named rfl 53 rfl Zn run_zero53 ?_)
    | (refine op_is (.store 53 (.tmp 8) (.tmp 21)) rfl ?_; refine wpList_store_last rfl 53 (.tmp 8) (.tmp 21) rfl W2.heap.size Zn rt.arr rfl rfl rfl Try.size53 rfl (Nd.arr_one _) ?_)
    | (refine op_is (.load 53 (.tmp 8)) rfl ?_; refine wpList_load_last rfl 53 (.tmp 8) rfl W2.heap.size (rt.withE 2).arr rfl rfl _ Try.underlying53 rfl Try.size53 ?_)
    | (refine op_is (.buildSlice 29 1 #[(0, .tmp 25)]) rfl ?_; refine wpList_buildSlice_named rfl 29 53 _ 1 rfl #[(0, .agg (rt.withE 2).arr)] (by simp only [List.map_toArray, List.map_cons, List.map_nil]; rfl) _ (run_slice1 (rt.withE 2)) ?_)
    | (at_builtin; go_must (refine wpList_append_own _ rfl (.tmp 24) (.tmp 26) 29 rfl w.heap.size 53 i0 (.agg Zn) 40 104 Try.underlying29 hi hz0 hz1 hz2 rfl (by decide) _ 0 [] rfl ((hown2.alloc _).alloc _) ⟨_, 0, none⟩ 1 1 (rt.withE 2).cells rfl rfl ?b0 (cells_one _) ?b1 ?b2 ?b3 ?_))
    | fail)
  case b0 => exact one_new _ _ _ rfl
  case b1 => unfold maxLen; omega
  case b2 => omega
  case b3 => have := hB1.size; have := hB2.size; simp; omega
  intro v3 w3 hown3 hg3 _
  have hB3 : Below w.heap.size w w3 := (((hB1.trans (hB2.mono hB1.size)).alloc (Nat.le_trans hB1.size hB2.size) _).alloc (by have := hB1.size; have := hB2.size; simp; omega) _).grown hg3 (by have := hB1.size; have := hB2.size; simp; omega) (fun k hk => by simp [Value.ownBlock] at hk; omega)
  obtain ⟨r, hr⟩ : ∃ r, rt.withE 2 = r := ⟨_, rfl⟩
  have hown3' : w3.ownsRow w.heap.size 53 40 v3 1 (flat [r]) := by rw [← hr]; simpa [flat] using hown3
  clear hg3 hr hown3 hown2 cR hown1
  go_wp2_with (first
    | (refine op_is (.build 53 #[(2, .const (.int .i64 1)), (6, .tmp 28)]) rfl ?_; refine wpList_build_named rfl 53 _ rfl #[(2, .int .i64 1), (6, .int .i64 2)] (by simp only [List.map_toArray, List.map_cons, List.map_nil]; rfl) (Nd.arr ⟨1, none, 0, 0, 0, 0, 2⟩) (run_build53_w 2) ?_)
    | (refine op_is (.alloc 53) rfl ?_; refine wpList_alloc_named rfl 53 rfl Zn run_zero53 ?_)
    | (refine op_is (.store 53 (.tmp 9) (.tmp 29)) rfl ?_; refine wpList_store_last rfl 53 (.tmp 9) (.tmp 29) rfl w3.heap.size Zn (Nd.arr ⟨1, none, 0, 0, 0, 0, 2⟩) rfl rfl rfl Try.size53 rfl (Nd.arr_one _) ?_)
    | (refine op_is (.load 53 (.tmp 9)) rfl ?_; refine wpList_load_last rfl 53 (.tmp 9) rfl w3.heap.size (Nd.mk 1 none 0 0 0 0 2).arr rfl rfl _ Try.underlying53 rfl Try.size53 ?_)
    | (refine op_is (.buildSlice 29 1 #[(0, .tmp 34)]) rfl ?_; refine wpList_buildSlice_named rfl 29 53 _ 1 rfl #[(0, .agg (Nd.mk 1 none 0 0 0 0 2).arr)] (by simp only [List.map_toArray, List.map_cons, List.map_nil]; rfl) _ (run_slice1 (Nd.mk 1 none 0 0 0 0 2)) ?_)
    | (at_builtin; go_must (refine wpList_append_own _ rfl (.tmp 33) (.tmp 35) 29 rfl w.heap.size 53 i0 (.agg Zn) 40 104 Try.underlying29 hi hz0 hz1 hz2 rfl (by decide) _ 1 _ rfl ((hown3'.alloc _).alloc _) ⟨_, 0, none⟩ 1 1 (Nd.mk 1 none 0 0 0 0 2).cells rfl rfl ?d0 (cells_one _) ?d1 ?d2 ?d3 ?_))
    | fail)
  case d0 => exact one_new _ _ _ rfl
  case d1 => unfold maxLen; omega
  case d2 => omega
  case d3 => have := hB3.size; simp; omega
  intro v5 w5 hown5 hg5 _
  have hB5 : Below w.heap.size w w5 := (((hB3.alloc hB3.size _).alloc (by have := hB3.size; simp; omega) _).grown hg5 (by have := hB3.size; simp; omega) (fun j hj => (hown3'.lt j hj).1))
  obtain ⟨x, hx⟩ : ∃ x, (Nd.mk 1 none 0 0 0 0 2) = x := ⟨_, rfl⟩
  have hown5' : w5.ownsRow w.heap.size 53 40 v5 2 (flat [r, x]) := by rw [← hx]; simpa [flat] using hown5
  have HX : Hid (pv x = (!false, ((2 + (la - 1) : Nat) : Int))) := by
    show _ = _
    rw [← hx]
    simp [pv, Nd.withS]
    try omega
  clear hg5 hx hown5 hown3'
  go_wp2
  go_loopw [7, 10] (fun v i wr => ∃ k : Nat, i = .int .i64 k ∧ 1 ≤ k ∧ (k ≤ la ∨ k = 1) ∧ wr.ownsRow w.heap.size 53 40 v (k + 1) (flat (wl r x xs k)) ∧ Below w.heap.size w wr) (fun _ i _ => la - (intOf i).toNat)
  case atStart =>
    refine ⟨1, rfl, by omega, by omega, ?_, hB5⟩
    rw [wl_one]; exact hown5'
  case round =>
    obtain ⟨k, rfl, hk1, hk2, hown, hBk⟩ := hrel
    by_cases hlt : k < la
    · exfalso; omega
    · rw [wl_end r x xs k (by have := HA.out.1; omega)] at hown
      have hkm : k + 1 = 2 + (la - 1) := by omega
      rw [hkm] at hown
      clear hkm
      obtain ⟨ao', c', hv, hrow, _⟩ := NRow.of_own hown (by omega)
      rw [hv]
      clear hv hown
      go_wp2
      go_ret
      exact ⟨r, x, ao', c', rfl, HX, hrow, hBk⟩

set_option maxHeartbeats 1600000 in
theorem wrap_s (ao : Option Addr) (la ca : Nat) (xs : List Nd) (w : World) (hA : ZRow w ao la xs) (hla : la ≤ 1100000) (ho : Pl.Ok (xs.map pv)) (ha : la ≠ 0) :
    Calls Try.prog 11 #[.slice ao la ca, .bool true] w (Wrapped xs la true w) := by
  obtain ⟨i0, hi, hz0, hz1, hz2⟩ := info_parts Try.info53
  have HA : Hid (ZRow w ao la xs) := hA
  have HO : Hid (Pl.Ok (xs.map pv)) := ho
  clear hA ho
  have hab : ((la : Int) == 0) = false := by simp; omega
  go_enter Try.func11, Try.ntmps11
  go_wp2_with (at_make; refine wpList_make_own _ rfl _ _ 29 rfl w.heap.size 53 i0 (.agg Zn) 40 Try.underlying29 hi hz0 hz1 _ _ _ (2 + (la - 1)) rfl rfl ?a0 ?a1 ?a2 ?a3 ?_)
  case a0 => omega
  case a1 => rw [hz2]; omega
  case a2 => unfold maxLen; omega
  case a3 => exact Nat.le_refl _
  intro w1 hown1 hg1
  have hB1 : Below w.heap.size w w1 := (Below.refl _ _).grown hg1 (Nat.le_refl _) (fun k hk => by cases hk)
  clear hg1
  have cR := root_any ao la ca xs w1 (HA.out.below hB1)
  obtain ⟨rt, hrt⟩ : ∃ rt, rootNd xs = rt := ⟨_, rfl⟩
  rw [hrt] at cR
  clear hrt
  go_wp2_with (first
    | (go_at_call 14; refine cR.mono ?_; rintro e W2 ⟨rfl, hB2⟩; have hown2 := ownsRow_below hown1 hB2)
    | (refine op_is (.alloc 53) rfl ?_; refine wpList_alloc_named rfl 53 rfl Zn run_zero53 ?_)
    | (refine op_is (.store 53 (.tmp 8) (.tmp 21)) rfl ?_; refine wpList_store_last rfl 53 (.tmp 8) (.tmp 21) rfl W2.heap.size Zn rt.arr rfl rfl rfl Try.size53 rfl (Nd.arr_one _) ?_)
    | (refine op_is (.load 53 (.tmp 8)) rfl ?_; refine wpList_load_last rfl 53 (.tmp 8) rfl W2.heap.size (rt.withE ((la : Int) + 1)).arr rfl rfl _ Try.underlying53 rfl Try.size53 ?_)
    | (refine op_is (.buildSlice 29 1 #[(0, .tmp 25)]) rfl ?_; refine wpList_buildSlice_named rfl 29 53 _ 1 rfl #[(0, .agg (rt.withE ((la : Int) + 1)).arr)] (by simp only [List.map_toArray, List.map_cons, List.map_nil]; rfl) _ (run_slice1 (rt.withE ((la : Int) + 1))) ?_)
    | (at_builtin; go_must (refine wpList_append_own _ rfl (.tmp 24) (.tmp 26) 29 rfl w.heap.size 53 i0 (.agg Zn) 40 104 Try.underlying29 hi hz0 hz1 hz2 rfl (by decide) _ 0 [] rfl ((hown2.alloc _).alloc _) ⟨_, 0, none⟩ 1 1 (rt.withE ((la : Int) + 1)).cells rfl rfl ?b0 (cells_one _) ?b1 ?b2 ?b3 ?_))
    | fail)
  case b0 => exact one_new _ _ _ rfl
  case b1 => unfold maxLen; omega
  case b2 => omega
  case b3 => have := hB1.size; have := hB2.size; simp; omega
  intro v3 w3 hown3 hg3 _
  have hB3 : Below w.heap.size w w3 := (((hB1.trans (hB2.mono hB1.size)).alloc (Nat.le_trans hB1.size hB2.size) _).alloc (by have := hB1.size; have := hB2.size; simp; omega) _).grown hg3 (by have := hB1.size; have := hB2.size; simp; omega) (fun k hk => by simp [Value.ownBlock] at hk; omega)
  obtain ⟨r, hr⟩ : ∃ r, rt.withE ((la : Int) + 1) = r := ⟨_, rfl⟩
  have hown3' : w3.ownsRow w.heap.size 53 40 v3 1 (flat [r]) := by rw [← hr]; simpa [flat] using hown3
  clear hg3 hr hown3 hown2 cR hown1
  go_wp2_with (first
    | (refine op_is (.build 53 #[(2, .const (.int .i64 1)), (6, .tmp 28)]) rfl ?_; refine wpList_build_named rfl 53 _ rfl #[(2, .int .i64 1), (6, .int .i64 ((la : Int) + 1))] (by simp only [List.map_toArray, List.map_cons, List.map_nil]; rfl) (Nd.arr ⟨1, none, 0, 0, 0, 0, ((la : Int) + 1)⟩) (run_build53_w ((la : Int) + 1)) ?_)
    | (refine op_is (.alloc 53) rfl ?_; refine wpList_alloc_named rfl 53 rfl Zn run_zero53 ?_)
    | (refine op_is (.store 53 (.tmp 9) (.tmp 29)) rfl ?_; refine wpList_store_last rfl 53 (.tmp 9) (.tmp 29) rfl w3.heap.size Zn (Nd.arr ⟨1, none, 0, 0, 0, 0, ((la : Int) + 1)⟩) rfl rfl rfl Try.size53 rfl (Nd.arr_one _) ?_)
    | (refine op_is (.load 53 (.tmp 9)) rfl ?_; refine wpList_load_row rfl 53 (.tmp 9) rfl w3.heap.size rfl 53 (Nd.withS ⟨1, none, 0, 0, 0, 0, ((la : Int) + 1)⟩ (some ⟨w3.heap.size + 1, 0, none⟩) 1 1).arr (0, 0) _ (heap_alloc2_old _ _ _) Try.underlying53 rfl Try.size53 ?_)
    | (refine op_is (.buildSlice 29 1 #[(0, .tmp 34)]) rfl ?_; refine wpList_buildSlice_named rfl 29 53 _ 1 rfl #[(0, .agg (Nd.withS ⟨1, none, 0, 0, 0, 0, ((la : Int) + 1)⟩ (some ⟨w3.heap.size + 1, 0, none⟩) 1 1).arr)] (by simp only [List.map_toArray, List.map_cons, List.map_nil]; rfl) _ (run_slice1 (Nd.withS ⟨1, none, 0, 0, 0, 0, ((la : Int) + 1)⟩ (some ⟨w3.heap.size + 1, 0, none⟩) 1 1)) ?_)
    | (at_builtin; go_must (refine wpList_append_own _ rfl (.tmp 33) (.tmp 35) 29 rfl w.heap.size 53 i0 (.agg Zn) 40 104 Try.underlying29 hi hz0 hz1 hz2 rfl (by decide) _ 1 _ rfl (((hown3'.alloc _).alloc _).alloc _) ⟨_, 0, none⟩ 1 1 (Nd.withS ⟨1, none, 0, 0, 0, 0, ((la : Int) + 1)⟩ (some ⟨w3.heap.size + 1, 0, none⟩) 1 1).cells rfl rfl ?d0 (cells_one _) ?d1 ?d2 ?d3 ?_))
    | fail)
  case d0 => exact one_new _ _ _ rfl
  case d1 => unfold maxLen; omega
  case d2 => omega
  case d3 => have := hB3.size; simp; omega
  intro v5 w5 hown5 hg5 _
  have hB5 : Below w.heap.size w w5 := ((((hB3.alloc hB3.size _).alloc (by have := hB3.size; simp; omega) _).alloc (by have := hB3.size; simp; omega) _).grown hg5 (by have := hB3.size; simp; omega) (fun j hj => (hown3'.lt j hj).1))
  obtain ⟨x, hx⟩ : ∃ x, (Nd.withS ⟨1, none, 0, 0, 0, 0, ((la : Int) + 1)⟩ (some ⟨w3.heap.size + 1, 0, none⟩) 1 1) = x := ⟨_, rfl⟩
  have hown5' : w5.ownsRow w.heap.size 53 40 v5 2 (flat [r, x]) := by rw [← hx]; simpa [flat] using hown5
  have HX : Hid (pv x = (!true, ((2 + (la - 1) : Nat) : Int))) := by
    show _ = _
    rw [← hx]
    simp [pv, Nd.withS]
    try omega
  clear hg5 hx hown5 hown3'
  go_wp2
  go_loopw [7, 10] (fun v i wr => ∃ k : Nat, i = .int .i64 k ∧ 1 ≤ k ∧ (k ≤ la ∨ k = 1) ∧ wr.ownsRow w.heap.size 53 40 v (k + 1) (flat (wl r x xs k)) ∧ Below w.heap.size w wr) (fun _ i _ => la - (intOf i).toNat)
  case atStart =>
    refine ⟨1, rfl, by omega, by omega, ?_, hB5⟩
    rw [wl_one]; exact hown5'
  case round =>
    obtain ⟨k, rfl, hk1, hk2, hown, hBk⟩ := hrel
    by_cases hlt : k < la
    · obtain ⟨b, off, rfl, nd, hnd, c1, c2, c3, c4, c5⟩ := (HA.out.below hBk).at k hlt
      have HN : Hid (xs.getD k N0 = nd) := hnd
      have hoq := HO.out k hk1 (by have := HA.out.1; simp; omega)
      rw [pv_at xs k (by have := HA.out.1; omega), hnd] at hoq
      have hl3 : (xs.map pv).length = la := by have := HA.out.1; simp [this]
      rw [hl3] at hoq
      clear hnd hl3
      obtain ⟨kk, aa, ll, cc, oo, ss, ee⟩ := nd
      simp only [pv] at c1 c2 c3 c4 c5 hoq
      have ho1 := hoq.1
      have ho2 := hoq.2
      clear hoq
      have hbw : b < wr.heap.size := World.block_lt_of_cell? _ _ c1
      have cT := toNode_any kk aa ll cc oo ss ee wr
      go_wp2_with (first
        | (go_at_call 13; refine cT.mono ?_; rintro e W4 ⟨rfl, hB4⟩; have hown4 := ownsRow_below hown hB4; have hb4 := Nat.lt_of_lt_of_le hbw hB4.size; have c6 := (hB4.cell (p := ⟨b, off + k * 5 + 4, none⟩) hbw).trans c5)
        | (refine op_is (.alloc 53) rfl ?_; refine wpList_alloc_named rfl 53 rfl Zn run_zero53 ?_)
        | (refine op_is (.store 53 (.tmp 11) (.tmp 47)) rfl ?_; refine wpList_store_last rfl 53 (.tmp 11) (.tmp 47) rfl W4.heap.size Zn (Nd.arr ⟨kk, aa, ll, cc, oo, ss, ee⟩) rfl rfl rfl Try.size53 rfl (Nd.arr_one _) ?_)
        | (refine op_is (.load 53 (.tmp 11)) rfl ?_; refine wpList_load_last rfl 53 (.tmp 11) rfl W4.heap.size (Nd.withE ⟨kk, aa, ll, cc, oo, ss, ee⟩ (ee + 1)).arr rfl rfl _ Try.underlying53 rfl Try.size53 ?_)
        | (refine op_is (.buildSlice 29 1 #[(0, .tmp 56)]) rfl ?_; refine wpList_buildSlice_named rfl 29 53 _ 1 rfl #[(0, .agg (Nd.withE ⟨kk, aa, ll, cc, oo, ss, ee⟩ (ee + 1)).arr)] (by simp only [List.map_toArray, List.map_cons, List.map_nil]; rfl) _ (run_slice1 (Nd.withE ⟨kk, aa, ll, cc, oo, ss, ee⟩ (ee + 1))) ?_)
        | (at_builtin; go_must (refine wpList_append_own _ rfl (.tmp 55) (.tmp 57) 29 rfl w.heap.size 53 i0 (.agg Zn) 40 104 Try.underlying29 hi hz0 hz1 hz2 rfl (by decide) _ (k + 1) _ rfl ((hown4.alloc _).alloc _) ⟨_, 0, none⟩ 1 1 (Nd.withE ⟨kk, aa, ll, cc, oo, ss, ee⟩ (ee + 1)).cells rfl rfl ?e0 (cells_one _) ?e1 ?e2 ?e3 ?_))
        | fail)
      case e0 => exact one_new _ _ _ rfl
      case e1 => unfold maxLen; omega
      case e2 => omega
      case e3 => have := hBk.size; have := hB4.size; simp; omega
      intro v5 w5 hown5 hg5 _
      have hB5 : Below w.heap.size w w5 := (((hBk.trans (hB4.mono hBk.size)).alloc (Nat.le_trans hBk.size hB4.size) _).alloc (by have := hBk.size; have := hB4.size; simp; omega) _).grown hg5 (by have := hBk.size; have := hB4.size; simp; omega) (fun j hj => (hown.lt j hj).1)
      have hst := step_w r x xs k hk1 (by have := HA.out.1; omega) _ HN.out
      simp only [] at hst
      rw [hst] at hown5
      clear hg5 hown4 cT hown c1 c2 c3 c4 c5 c6 hst
      go_wp2
      go_roundw
      case rel => exact ⟨k + 1, by go_num, by omega, by omega, hown5, hB5⟩
      case measure => simp [intOf]; omega
    · rw [wl_end r x xs k (by have := HA.out.1; omega)] at hown
      have hkm : k + 1 = 2 + (la - 1) := by omega
      rw [hkm] at hown
      clear hkm
      obtain ⟨ao', c', hv, hrow, _⟩ := NRow.of_own hown (by omega)
      rw [hv]
      clear hv hown
      go_wp2
      go_ret
      exact ⟨r, x, ao', c', rfl, HX, hrow, hBk⟩

set_option maxHeartbeats 1600000 in
theorem wrap_s0 (ao : Option Addr) (la ca : Nat) (xs : List Nd) (w : World) (hA : ZRow w ao la xs) (hla : la ≤ 1100000) (ho : Pl.Ok (xs.map pv)) (ha : la < 1) :
    Calls Try.prog 11 #[.slice ao la ca, .bool true] w (Wrapped xs la true w) := by
  obtain ⟨i0, hi, hz0, hz1, hz2⟩ := info_parts Try.info53
  have HA : Hid (ZRow w ao la xs) := hA
  have HO : Hid (Pl.Ok (xs.map pv)) := ho
  clear hA ho
  have hab : ((la : Int) == 0) = true := by simp; omega
  go_enter Try.func11, Try.ntmps11
  go_wp2_with (at_make; refine wpList_make_own _ rfl _ _ 29 rfl w.heap.size 53 i0 (.agg Zn) 40 Try.underlying29 hi hz0 hz1 _ _ _ (2 + (la - 1)) rfl rfl ?a0 ?a1 ?a2 ?a3 ?_)
  case a0 => omega
  case a1 => rw [hz2]; omega
  case a2 => unfold maxLen; omega
  case a3 => exact Nat.le_refl _
  intro w1 hown1 hg1
  have hB1 : Below w.heap.size w w1 := (Below.refl _ _).grown hg1 (Nat.le_refl _) (fun k hk => by cases hk)
  clear hg1
  have cR := root_any ao la ca xs w1 (HA.out.below hB1)
  obtain ⟨rt, hrt⟩ : ∃ rt, rootNd xs = rt := ⟨_, rfl⟩
  rw [hrt] at cR
  clear hrt
  go_wp2_with (first
    | (go_at_call 14; refine cR.mono ?_; rintro e W2 ⟨rfl, hB2⟩; have hown2 := ownsRow_below hown1 hB2)
    | (refine op_is (.alloc 53) rfl ?_; refine wpList_alloc_named rfl 53 rfl Zn run_zero53 ?_)
    | (refine op_is (.store 53 (.tmp 8) (.tmp 21)) rfl ?_; refine wpList_store_last rfl 53 (.tmp 8) (.tmp 21) rfl W2.heap.size Zn rt.arr rfl rfl rfl Try.size53 rfl (Nd.arr_one _) ?_)
    | (refine op_is (.load 53 (.tmp 8)) rfl ?_; refine wpList_load_last rfl 53 (.tmp 8) rfl W2.heap.size (rt.withE 2).arr rfl rfl _ Try.underlying53 rfl Try.size53 ?_)
    | (refine op_is (.buildSlice 29 1 #[(0, .tmp 25)]) rfl ?_; refine wpList_buildSlice_named rfl 29 53 _ 1 rfl #[(0, .agg (rt.withE 2).arr)] (by simp only [List.map_toArray, List.map_cons, List.map_nil]; rfl) _ (run_slice1 (rt.withE 2)) ?_)
    | (at_builtin; go_must (refine wpList_append_own _ rfl (.tmp 24) (.tmp 26) 29 rfl w.heap.size 53 i0 (.agg Zn) 40 104 Try.underlying29 hi hz0 hz1 hz2 rfl (by decide) _ 0 [] rfl ((hown2.alloc _).alloc _) ⟨_, 0, none⟩ 1 1 (rt.withE 2).cells rfl rfl ?b0 (cells_one _) ?b1 ?b2 ?b3 ?_))
    | fail)
  case b0 => exact one_new _ _ _ rfl
  case b1 => unfold maxLen; omega
  case b2 => omega
  case b3 => have := hB1.size; have := hB2.size; simp; omega
  intro v3 w3 hown3 hg3 _
  have hB3 : Below w.heap.size w w3 := (((hB1.trans (hB2.mono hB1.size)).alloc (Nat.le_trans hB1.size hB2.size) _).alloc (by have := hB1.size; have := hB2.size; simp; omega) _).grown hg3 (by have := hB1.size; have := hB2.size; simp; omega) (fun k hk => by simp [Value.ownBlock] at hk; omega)
  obtain ⟨r, hr⟩ : ∃ r, rt.withE 2 = r := ⟨_, rfl⟩
  have hown3' : w3.ownsRow w.heap.size 53 40 v3 1 (flat [r]) := by rw [← hr]; simpa [flat] using hown3
  clear hg3 hr hown3 hown2 cR hown1
  go_wp2_with (first
    | (refine op_is (.build 53 #[(2, .const (.int .i64 1)), (6, .tmp 28)]) rfl ?_; refine wpList_build_named rfl 53 _ rfl #[(2, .int .i64 1), (6, .int .i64 2)] (by simp only [List.map_toArray, List.map_cons, List.map_nil]; rfl) (Nd.arr ⟨1, none, 0, 0, 0, 0, 2⟩) (run_build53_w 2) ?_)
    | (refine op_is (.alloc 53) rfl ?_; refine wpList_alloc_named rfl 53 rfl Zn run_zero53 ?_)
    | (refine op_is (.store 53 (.tmp 9) (.tmp 29)) rfl ?_; refine wpList_store_last rfl 53 (.tmp 9) (.tmp 29) rfl w3.heap.size Zn (Nd.arr ⟨1, none, 0, 0, 0, 0, 2⟩) rfl rfl rfl Try.size53 rfl (Nd.arr_one _) ?_)
    | (refine op_is (.load 53 (.tmp 9)) rfl ?_; refine wpList_load_row rfl 53 (.tmp 9) rfl w3.heap.size rfl 53 (Nd.withS ⟨1, none, 0, 0, 0, 0, 2⟩ (some ⟨w3.heap.size + 1, 0, none⟩) 1 1).arr (0, 0) _ (heap_alloc2_old _ _ _) Try.underlying53 rfl Try.size53 ?_)
    | (refine op_is (.buildSlice 29 1 #[(0, .tmp 34)]) rfl ?_; refine wpList_buildSlice_named rfl 29 53 _ 1 rfl #[(0, .agg (Nd.withS ⟨1, none, 0, 0, 0, 0, 2⟩ (some ⟨w3.heap.size + 1, 0, none⟩) 1 1).arr)] (by simp only [List.map_toArray, List.map_cons, List.map_nil]; rfl) _ (run_slice1 (Nd.withS ⟨1, none, 0, 0, 0, 0, 2⟩ (some ⟨w3.heap.size + 1, 0, none⟩) 1 1)) ?_)
    | (at_builtin; go_must (refine wpList_append_own _ rfl (.tmp 33) (.tmp 35) 29 rfl w.heap.size 53 i0 (.agg Zn) 40 104 Try.underlying29 hi hz0 hz1 hz2 rfl (by decide) _ 1 _ rfl (((hown3'.alloc _).alloc _).alloc _) ⟨_, 0, none⟩ 1 1 (Nd.withS ⟨1, none, 0, 0, 0, 0, 2⟩ (some ⟨w3.heap.size + 1, 0, none⟩) 1 1).cells rfl rfl ?d0 (cells_one _) ?d1 ?d2 ?d3 ?_))
    | fail)
  case d0 => exact one_new _ _ _ rfl
  case d1 => unfold maxLen; omega
  case d2 => omega
  case d3 => have := hB3.size; simp; omega
  intro v5 w5 hown5 hg5 _
  have hB5 : Below w.heap.size w w5 := ((((hB3.alloc hB3.size _).alloc (by have := hB3.size; simp; omega) _).alloc (by have := hB3.size; simp; omega) _).grown hg5 (by have := hB3.size; simp; omega) (fun j hj => (hown3'.lt j hj).1))
  obtain ⟨x, hx⟩ : ∃ x, (Nd.withS ⟨1, none, 0, 0, 0, 0, 2⟩ (some ⟨w3.heap.size + 1, 0, none⟩) 1 1) = x := ⟨_, rfl⟩
  have hown5' : w5.ownsRow w.heap.size 53 40 v5 2 (flat [r, x]) := by rw [← hx]; simpa [flat] using hown5
  have HX : Hid (pv x = (!true, ((2 + (la - 1) : Nat) : Int))) := by
    show _ = _
    rw [← hx]
    simp [pv, Nd.withS]
    try omega
  clear hg5 hx hown5 hown3'
  go_wp2
  go_loopw [7, 10] (fun v i wr => ∃ k : Nat, i = .int .i64 k ∧ 1 ≤ k ∧ (k ≤ la ∨ k = 1) ∧ wr.ownsRow w.heap.size 53 40 v (k + 1) (flat (wl r x xs k)) ∧ Below w.heap.size w wr) (fun _ i _ => la - (intOf i).toNat)
  case atStart =>
    refine ⟨1, rfl, by omega, by omega, ?_, hB5⟩
    rw [wl_one]; exact hown5'
  case round =>
    obtain ⟨k, rfl, hk1, hk2, hown, hBk⟩ := hrel
    by_cases hlt : k < la
    · exfalso; omega
    · rw [wl_end r x xs k (by have := HA.out.1; omega)] at hown
      have hkm : k + 1 = 2 + (la - 1) := by omega
      rw [hkm] at hown
      clear hkm
      obtain ⟨ao', c', hv, hrow, _⟩ := NRow.of_own hown (by omega)
      rw [hv]
      clear hv hown
      go_wp2
      go_ret
      exact ⟨r, x, ao', c', rfl, HX, hrow, hBk⟩

theorem wrap_any (ao : Option Addr) (la ca : Nat) (xs : List Nd) (signed : Bool) (w : World) (hA : ZRow w ao la xs) (hla : la ≤ 1100000) (ho : Pl.Ok (xs.map pv)) :
    Calls Try.prog 11 #[.slice ao la ca, .bool signed] w (Wrapped xs la signed w) := by
  by_cases ha : la = 0
  · cases signed
    · exact wrap_n0 ao la ca xs w hA hla ho (by omega)
    · exact wrap_s0 ao la ca xs w hA hla ho (by omega)
  · cases signed
    · exact wrap_n ao la ca xs w hA hla ho ha
    · exact wrap_s ao la ca xs w hA hla ho ha

end Go.Proofs.Qxb6627411a
