/-
  The law FnChunksAddOverJoinedRevisions (3): its walk.
-/
import Derived.Test.Qxb6627411aBytes
import Derived.Test.Qxb6627411aJoin
namespace Go.Proofs.Qxb6627411a
open Go.RowKit
set_option linter.unusedSimpArgs false
set_option linter.unusedVariables false

theorem map_joined (r : Nd) (xs ys : List Nd) (m : Nat) : (r :: (xs.tail ++ ys.tail.map fun y => y.withE (y.e + (m : Int) - 1))).map pv = Pl.joined (pv r) (xs.map pv) (ys.map pv) m := by
  simp [Pl.joined, List.map_tail, Function.comp_def, pv, Nd.withE]

theorem joined_len (r : Nd) (xs ys : List Nd) (m : Nat) : (r :: (xs.tail ++ ys.tail.map fun y => y.withE (y.e + (m : Int) - 1))).length = 1 + (xs.length - 1) + (ys.length - 1) := by
  simp; omega

/-- The two nodes of the leaf. -/
def leaf : List Nd := [⟨0, none, 0, 0, 0, 0, 2⟩, ⟨2, none, 0, 0, 0, 0, 2⟩]
def leafArr : Array Value := #[.int .i64 0, .slice none 0 0, .int .i64 0, .int .i64 0, .int .i64 2, .int .i64 2, .slice none 0 0, .int .i64 0, .int .i64 0, .int .i64 2]
theorem leaf_ok : Pl.Ok (leaf.map pv) := by
  intro i hi hlt
  simp [leaf] at hlt
  obtain rfl : i = 1 := by omega
  simp [leaf, pv]
theorem leaf_count : Pl.C (leaf.map pv) 1 = 1 := rfl
theorem run_leaf (w : World) : (Instr.buildSlice 22 2 #[(0, .agg #[.int .i64 0, .slice none 0 0, .int .i64 0, .int .i64 0, .int .i64 2]), (1, .agg #[.int .i64 2, .slice none 0 0, .int .i64 0, .int .i64 0, .int .i64 2])]).run Try.prog w = .ok (.slice (some ⟨w.heap.size, 0, none⟩) 2 2) (w.alloc (.cells leafArr 26)) := by kernel_rfl
theorem leaf_row (w : World) : ZRow (w.alloc (.cells leafArr 26)) (some ⟨w.heap.size, 0, none⟩) 2 leaf := by
  refine ⟨rfl, fun _ => ⟨w.heap.size, 0, rfl, fun i hi => ?_⟩⟩
  have h : ∀ j, (w.alloc (.cells leafArr 26)).cell? ⟨w.heap.size, j, none⟩ = leafArr[j]? := fun j => cell_of_row _ _ _ _ 26 (0, 0) (heap_alloc_new w _)
  simp only [h]
  match i, hi with
  | 0, _ => exact ⟨rfl, rfl, rfl, rfl, rfl⟩
  | 1, _ => exact ⟨rfl, rfl, rfl, rfl, rfl⟩

theorem count_le (xs : List Nd) (la : Nat) (hl : xs.length = la) (h : Pl.Ok (xs.map pv)) : Pl.C (xs.map pv) 1 ≤ la := by
  have := Pl.C_le (xs.map pv) h (xs.map pv).length 1 (by omega) (by omega)
  simp [hl] at this
  omega

set_option maxHeartbeats 1600000 in
theorem joined_walk (ao bo : Option Addr) (la ca lb cb : Nat) (xs ys : List Nd) (w : World) (hA : ZRow w ao la xs) (hB : ZRow w bo lb ys) (hnA : ao = none → la = 0 ∧ ca = 0) (hnB : bo = none → lb = 0 ∧ cb = 0) (hma : la ≤ maxLen) (hmb : lb ≤ maxLen) :
    Calls Try.prog 3 #[.slice ao la ca, .slice bo lb cb] w fun e w' => e = .returned (.bool true) ∧ Below w.heap.size w w' := by
  have c5 := bytes5_any ao bo la ca lb cb xs ys w hA hB hma hmb
  have HA : Hid (ZRow w ao la xs) := hA
  have HB : Hid (ZRow w bo lb ys) := hB
  have HNA : Hid (ao = none → la = 0 ∧ ca = 0) := hnA
  have HNB : Hid (bo = none → lb = 0 ∧ cb = 0) := hnB
  clear hA hB hnA hnB
  unfold maxLen at hma hmb
  go_enter Try.func3, Try.ntmps3
  go_wp2_with fail
  refine c5.mono ?_
  rintro e w' ⟨b, rfl, hb, rfl⟩
  clear c5
  cases b
  · go_wp2
    go_ret
    exact ⟨rfl, Below.refl _ _⟩
  obtain ⟨hla, hlb⟩ := hb rfl
  clear hb
  go_wp2_with fail
  go_loop [5, 6] (fun n i => ∃ (x : Int) (k : Nat), n = .int .i64 x ∧ i = .int .i64 k ∧ k ≤ la) (fun _ i => la - (intOf i).toNat)
  case atStart => exact ⟨0, 0, rfl, rfl, by omega⟩
  case round =>
    obtain ⟨x, k, rfl, rfl, hk⟩ := hrel
    by_cases hlt : k < la
    · obtain ⟨b, off, rfl, nd, hnd, c1, c2, c3, c4, c5⟩ := HA.out.at k hlt
      clear hnd c1 c3 c4 c5
      go_wp2
      · go_ret
        exact ⟨rfl, Below.refl _ _⟩
      · go_round
        case rel => exact ⟨_, k + 1, rfl, by go_num, by omega⟩
        case measure => simp [intOf]; omega
    · go_wp2_with fail
      go_loop [5, 7] (fun n i => ∃ (x : Int) (k : Nat), n = .int .i64 x ∧ i = .int .i64 k ∧ k ≤ lb) (fun _ i => lb - (intOf i).toNat)
      case atStart => exact ⟨_, 0, rfl, rfl, by omega⟩
      case round =>
        obtain ⟨x, q, rfl, rfl, hq⟩ := hrel
        by_cases hlt2 : q < lb
        · obtain ⟨b, off, rfl, nd, hnd, c1, c2, c3, c4, c5⟩ := HB.out.at q hlt2
          clear hnd c1 c3 c4 c5
          go_wp2
          · go_ret
            exact ⟨rfl, Below.refl _ _⟩
          · go_round
            case rel => exact ⟨_, q + 1, rfl, by go_num, by omega⟩
            case measure => simp [intOf]; omega
        · have c6 := ends_any ao la ca xs w HA.out hla
          go_wp2_with fail
          refine c6.mono ?_
          rintro e w' ⟨b, rfl, hb, rfl⟩
          clear c6
          cases b
          · go_wp2
            go_ret
            exact ⟨rfl, Below.refl _ _⟩
          have HOA : Hid (Pl.Ok (xs.map pv)) := hb rfl
          clear hb
          have c6 := ends_any bo lb cb ys w HB.out hlb
          go_wp2_with fail
          refine c6.mono ?_
          rintro e w' ⟨b, rfl, hb, rfl⟩
          clear c6
          cases b
          · go_wp2
            go_ret
            exact ⟨rfl, Below.refl _ _⟩
          have HOB : Hid (Pl.Ok (ys.map pv)) := hb rfl
          clear hb
          have hlA : Hid (xs.length = la) := HA.out.1
          have hlB : Hid (ys.length = lb) := HB.out.1
          obtain ⟨NA, hNA⟩ : ∃ N, Pl.C (xs.map pv) 1 = N := ⟨_, rfl⟩
          obtain ⟨NB, hNB⟩ : ∃ N, Pl.C (ys.map pv) 1 = N := ⟨_, rfl⟩
          have hNAle : NA ≤ la := by rw [← hNA]; exact count_le xs la hlA.out HOA.out
          have hNBle : NB ≤ lb := by rw [← hNB]; exact count_le ys lb hlB.out HOB.out
          have HNA' : Hid (Pl.C (xs.map pv) 1 = NA) := hNA
          have HNB' : Hid (Pl.C (ys.map pv) 1 = NB) := hNB
          clear hNA hNB
          have c8 := build_any ao la ca xs w HA.out HNA.out (by omega)
          go_wp2_with fail
          refine c8.mono ?_
          rintro e w1 ⟨ao1, cap1, rfl, hN1, hB1⟩
          clear c8
          have c7 := chunksOf_any ao1 cap1 la xs w1 hlA.out hN1 HOA.out
          rw [HNA'.out] at c7
          clear hN1
          go_wp2_with fail
          refine c7.mono ?_
          rintro e w2 ⟨rfl, hB2⟩
          clear c7
          have hb2 : Below w.heap.size w w2 := hB1.trans (hB2.mono hB1.size)
          clear hB1 hB2
          have c8 := build_any bo lb cb ys w2 (HB.out.below hb2) HNB.out (by omega)
          go_wp2_with fail
          refine c8.mono ?_
          rintro e w3 ⟨ao3, cap3, rfl, hN3, hB3⟩
          clear c8
          have c7 := chunksOf_any ao3 cap3 lb ys w3 hlB.out hN3 HOB.out
          rw [HNB'.out] at c7
          clear hN3
          go_wp2_with fail
          refine c7.mono ?_
          rintro e w4 ⟨rfl, hB4⟩
          clear c7
          have hb4 : Below w.heap.size w w4 := hb2.trans ((hB3.trans (hB4.mono hB3.size)).mono hb2.size)
          clear hb2 hB3 hB4
          have c9 := join_any ao bo la ca lb cb xs ys w4 (HA.out.below hb4) (HB.out.below hb4) (by omega) (by omega) HOB.out
          go_wp2_with fail
          refine c9.mono ?_
          rintro e w5 ⟨r, n, ao5, c5, rfl, hn5, hN5, hB5⟩
          clear c9
          have hok5 := Pl.joined_ok (pv r) (xs.map pv) (ys.map pv) (1 + (la - 1)) (by have := hlA.out; simp [this]) HOA.out HOB.out
          have hcnt5 := Pl.joined_count (pv r) (xs.map pv) (ys.map pv) (1 + (la - 1)) (by have := hlA.out; simp [this]) HOA.out HOB.out
          rw [← map_joined] at hok5 hcnt5
          have c7 := chunksOf_any ao5 c5 n _ w5 (by rw [joined_len, hlA.out, hlB.out, hn5]) hN5 hok5
          rw [hcnt5, HNA'.out, HNB'.out, Int.natCast_add] at c7
          clear hok5 hcnt5 hN5 hn5
          go_wp2_with fail
          refine c7.mono ?_
          rintro e w6 ⟨rfl, hB6⟩
          clear c7
          have hb6 : Below w.heap.size w w6 := hb4.trans ((hB5.trans (hB6.mono hB5.size)).mono hb4.size)
          clear hb4 hB5 hB6
          have hb7 : Below w.heap.size w (w6.alloc (.cells leafArr 26)) := hb6.alloc hb6.size _
          have c9 := join_any ao (some ⟨w6.heap.size, 0, none⟩) la ca 2 2 xs leaf (w6.alloc (.cells leafArr 26)) (HA.out.below hb7) (leaf_row w6) (by omega) (by omega) leaf_ok
          go_wp2_with (first
            | (refine op_is (.buildSlice 22 2 #[(0, .tmp 69), (1, .tmp 70)]) rfl ?_; refine wpList_buildSlice_named rfl 22 26 _ 2 rfl #[(0, .agg #[.int .i64 0, .slice none 0 0, .int .i64 0, .int .i64 0, .int .i64 2]), (1, .agg #[.int .i64 2, .slice none 0 0, .int .i64 0, .int .i64 0, .int .i64 2])] (by simp only [List.map_toArray, List.map_cons, List.map_nil]; rfl) leafArr run_leaf ?_)
            | fail)
          refine c9.mono ?_
          rintro e w8 ⟨r, n, ao8, c8, rfl, hn8, hN8, hB8⟩
          clear c9
          have hok8 := Pl.joined_ok (pv r) (xs.map pv) (leaf.map pv) (1 + (la - 1)) (by have := hlA.out; simp [this]) HOA.out leaf_ok
          have hcnt8 := Pl.joined_count (pv r) (xs.map pv) (leaf.map pv) (1 + (la - 1)) (by have := hlA.out; simp [this]) HOA.out leaf_ok
          rw [← map_joined] at hok8 hcnt8
          have c7 := chunksOf_any ao8 c8 n _ w8 (by rw [joined_len, hlA.out, hn8]; rfl) hN8 hok8
          rw [hcnt8, HNA'.out, leaf_count, Int.natCast_add] at c7
          clear hok8 hcnt8 hN8 hn8
          go_wp2_with fail
          refine c7.mono ?_
          rintro e w9 ⟨rfl, hB9⟩
          clear c7
          have hb9 : Below w.heap.size w w9 := hb7.trans ((hB8.trans (hB9.mono hB8.size)).mono hb7.size)
          clear hb6 hb7 hB8 hB9
          go_wp2
          all_goals (go_ret; exact ⟨ret_bool (by simp), hb9⟩)

end Go.Proofs.Qxb6627411a
