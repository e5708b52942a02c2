/-
  buildNodes (8), rootOf (14).
-/
import Derived.Test.Qxb6627411aChunks
import Derived.Lib.SliceRun
namespace Go.Proofs.Qxb6627411a
open Go.RowKit
set_option linter.unusedSimpArgs false
set_option linter.unusedVariables false

/-- The row that is being filled: k nodes stand. -/
def Half (w : World) (g len k : Nat) (zs : List Nd) : Prop :=
  ∃ cur : Array Value, w.heap[g]? = some (.cells cur 53 (0, 0)) ∧ cur.size = len * 40 ∧ ∀ i, i < k →
    cur[i * 40 + 34]? = some (.int .i64 (zs.getD i N0).k) ∧ cur[i * 40 + 35]? = some (.slice (zs.getD i N0).a (zs.getD i N0).l (zs.getD i N0).c) ∧ cur[i * 40 + 38]? = some (.int .i64 (zs.getD i N0).e)

theorem Nd.arr34 (n : Nd) : n.arr[34]? = some (.int .i64 n.k) := rfl
theorem Nd.arr35 (n : Nd) : n.arr[35]? = some (.slice n.a n.l n.c) := rfl
theorem Nd.arr38 (n : Nd) : n.arr[38]? = some (.int .i64 n.e) := rfl

theorem over_size (cur : Array Value) (off : Nat) (c : Array Value) (h : off + c.size ≤ cur.size) : (over cur off c).size = cur.size := by
  simp [over]; omega
theorem over_left (cur : Array Value) (off : Nat) (c : Array Value) (h : off + c.size ≤ cur.size) (j : Nat) (hj : j < off) : (over cur off c)[j]? = cur[j]? := by
  simp only [over, List.getElem?_toArray, List.append_assoc]
  rw [List.getElem?_append_left (by simp; omega), List.getElem?_take, if_pos hj]
  simp
theorem over_mid (cur : Array Value) (off : Nat) (c : Array Value) (h : off + c.size ≤ cur.size) (j : Nat) (hj : j < c.size) : (over cur off c)[off + j]? = c[j]? := by
  simp only [over, List.getElem?_toArray, List.append_assoc]
  rw [List.getElem?_append_right (by simp; omega)]
  have e : off + j - (cur.toList.take off).length = j := by simp; omega
  rw [e, List.getElem?_append_left (by simpa using hj)]
  simp

theorem Half.step {w : World} {g len k : Nat} {zs : List Nd} (h : Half w g len k zs) (hk : k < len) (nd : Nd) (hnd : zs.getD k N0 = nd) :
    ∃ cur : Array Value, w.heap[g]? = some (.cells cur 53 (0, 0)) ∧ k * 40 + nd.arr.size ≤ cur.size ∧ Half (w.setRow g (over cur (k * 40) nd.arr)) g len (k + 1) zs := by
  obtain ⟨cur, hg, hs, hc⟩ := h
  have hfit : k * 40 + nd.arr.size ≤ cur.size := by rw [Nd.arr_size, hs]; omega
  refine ⟨cur, hg, hfit, _, setRow_heap w g cur _ 53 _ hg, by rw [over_size _ _ _ hfit, hs], fun i hi => ?_⟩
  by_cases e : i = k
  · subst e
    rw [hnd, over_mid _ _ _ hfit 34 (by rw [Nd.arr_size]; omega), over_mid _ _ _ hfit 35 (by rw [Nd.arr_size]; omega), over_mid _ _ _ hfit 38 (by rw [Nd.arr_size]; omega)]
    exact ⟨nd.arr34, nd.arr35, nd.arr38⟩
  · rw [over_left _ _ _ hfit _ (by omega), over_left _ _ _ hfit _ (by omega), over_left _ _ _ hfit _ (by omega)]
    exact hc i (by omega)

theorem Half.below {w w' : World} {g len k : Nat} {zs : List Nd} (h : Half w g len k zs) (hb : Below w.heap.size w w') : Half w' g len k zs := by
  obtain ⟨cur, hg, hs, hc⟩ := h
  have hlt : g < w.heap.size := (Array.getElem?_eq_some_iff.1 hg).1
  exact ⟨cur, by rw [hb.block g hlt]; exact hg, hs, hc⟩

theorem Half.row {w : World} {g len : Nat} {zs : List Nd} (h : Half w g len len zs) (hl : zs.length = len) (hm : len ≤ 3000000) : NRow w (some ⟨g, 0, none⟩) zs := by
  obtain ⟨cur, hg, hs, hc⟩ := h
  refine ⟨by omega, fun _ => ⟨g, rfl, fun i hi => ?_⟩⟩
  rw [cell_of_row _ _ _ _ 53 (0, 0) hg, cell_of_row _ _ _ _ 53 (0, 0) hg, cell_of_row _ _ _ _ 53 (0, 0) hg]
  exact hc i (by omega)

theorem below_setRow' {B g : Nat} {w0 w : World} (hb : Below B w0 w) (hBg : B ≤ g) (cs : Array Value) : Below B w0 (w.setRow g cs) :=
  hb.trans ⟨rfl, rfl, rfl, by simp [World.setRow], fun k hk => setRow_other w g k cs (by omega)⟩

/-- What buildNodes hands back. -/
def Built (zs : List Nd) (len : Nat) (w : World) (e : Ending) (w' : World) : Prop := ∃ ao cap, e = .returned (.slice ao len cap) ∧ NRow w' ao zs ∧ Below w.heap.size w w'

set_option maxHeartbeats 800000 in
theorem build_some (x : Addr) (len cap : Nat) (zs : List Nd) (w : World) (hZ : ZRow w (some x) len zs) (hlen : len ≤ 1100000) :
    Calls Try.prog 8 #[.slice (some x) len cap] w (Built zs len w) := by
  obtain ⟨i0, hi, hz0, hz1, hz2⟩ := info_parts Try.info53
  have qn : ∀ (w : World) (a : Option Addr) (n c n' c' : Nat), (binOp .eql 22 (.slice a n c) (.slice none n' c')).run Try.prog w = .ok (.bool a.isNone) w := fun w a n c n' c' => Lib.run_eql_slice_nil w _ _ a n c n' c' Try.underlying22
  have HZ : Hid (ZRow w (some x) len zs) := hZ
  clear hZ
  go_enter Try.func8, Try.ntmps8
  go_wp2_with (at_make; refine wpList_make_full _ rfl _ _ 29 rfl w.heap.size 53 i0 (.agg Zn) 40 Try.underlying29 hi hz0 hz1 _ _ _ _ len rfl rfl rfl rfl ?a1 ?a2 ?a3 ?_)
  case a1 => rw [hz2]; omega
  case a2 => unfold maxLen; omega
  case a3 => exact Nat.le_refl _
  intro w1 hown1 hg1
  have hB1 : Below w.heap.size w w1 := (Below.refl _ _).grown hg1 (Nat.le_refl _) (fun k hk => by cases hk)
  have hH : Half w1 w.heap.size len 0 zs := by
    rcases hown1.2 with ⟨h, _⟩ | ⟨g, cap', cur, h, _, hg, _, _, hcs, _⟩
    · cases h
    · simp only [Value.slice.injEq, Option.some.injEq, Addr.mk.injEq] at h
      obtain ⟨⟨rfl, _⟩, _, rfl⟩ := h
      exact ⟨cur, hg, hcs, fun i hi => by omega⟩
  clear hown1 hg1
  go_wp2
  go_loopw [4] (fun i wr => ∃ k : Nat, i = .int .i64 k ∧ k ≤ len ∧ Half wr w.heap.size len k zs ∧ Below w.heap.size w wr) (fun i _ => len - (intOf i).toNat)
  case atStart => exact ⟨0, rfl, by omega, hH, hB1⟩
  case round =>
    obtain ⟨k, rfl, hk, hHk, hBk⟩ := hrel
    by_cases hlt : k < len
    · obtain ⟨b, off, hx, nd, hnd, c1, c2, c3, c4, c5⟩ := (HZ.out.below hBk).at k hlt
      obtain rfl := Option.some.inj hx
      have HN : Hid (zs.getD k N0 = nd) := hnd
      clear hnd hx
      obtain ⟨kk, aa, ll, cc, oo, ss, ee⟩ := nd
      simp only [] at c1 c2 c3 c4 c5
      have cT := toNode_any kk aa ll cc oo ss ee wr
      go_wp2_with (first
        | (go_at_call 13; refine cT.mono ?_; rintro e W2 ⟨rfl, hB2⟩; obtain ⟨cur, hg, hfit, hS⟩ := (hHk.below hB2).step hlt _ HN.out)
        | (refine wpList_store_mid rfl 53 53 (.tmp 23) (.tmp 22) rfl w.heap.size (k * 40) cur (Nd.arr ⟨kk, aa, ll, cc, oo, ss, ee⟩) rfl rfl hg Try.size53 hfit (Nd.arr_one _) ?_))
      go_roundw
      case rel => exact ⟨k + 1, by go_num, by omega, hS, below_setRow' (hBk.trans (hB2.mono hBk.size)) (Nat.le_refl _) _⟩
      case measure => simp [intOf]; omega
    · obtain rfl : k = len := by omega
      go_wp2
      go_ret
      exact ⟨_, _, rfl, hHk.row HZ.out.1 (by omega), hBk⟩

theorem build_nil (w : World) : Calls Try.prog 8 #[.slice none 0 0] w (Built [] 0 w) := by
  have qn : ∀ (w : World) (a : Option Addr) (n c n' c' : Nat), (binOp .eql 22 (.slice a n c) (.slice none n' c')).run Try.prog w = .ok (.bool a.isNone) w := fun w a n c n' c' => Lib.run_eql_slice_nil w _ _ a n c n' c' Try.underlying22
  go_enter Try.func8, Try.ntmps8
  go_wp2
  go_ret
  exact ⟨_, _, rfl, ⟨by simp, fun h => absurd rfl h⟩, Below.refl _ _⟩

/-- buildNodes, whatever the slice (a nil one has no length). -/
theorem build_any (ao : Option Addr) (len cap : Nat) (zs : List Nd) (w : World) (hZ : ZRow w ao len zs) (hnil : ao = none → len = 0 ∧ cap = 0) (hlen : len ≤ 1100000) :
    Calls Try.prog 8 #[.slice ao len cap] w (Built zs len w) := by
  cases ao with
  | some x => exact build_some x len cap zs w hZ hlen
  | none =>
    obtain ⟨rfl, rfl⟩ := hnil rfl
    have : zs = [] := List.eq_nil_of_length_eq_zero hZ.1
    subst this
    exact build_nil w

/-- The root that joinNodes and wrapNodes begin with. -/
def rootNd (zs : List Nd) : Nd := zs.headD N0

theorem run_build53_zero (w : World) : (Instr.build 53 #[]).run Try.prog w = .ok (.agg (Nd.arr N0)) w := by kernel_rfl

theorem headD_getD (zs : List Nd) : zs.headD N0 = zs.getD 0 N0 := by cases zs <;> simp

theorem root_any (ao : Option Addr) (len cap : Nat) (zs : List Nd) (w : World) (hZ : ZRow w ao len zs) :
    Calls Try.prog 14 #[.slice ao len cap] w fun e w' => e = .returned (.agg (Nd.arr (rootNd zs))) ∧ Below w.heap.size w w' := by
  by_cases h0 : len = 0
  · subst h0
    have : zs = [] := List.eq_nil_of_length_eq_zero hZ.1
    subst this
    show Calls Try.prog 14 #[.slice ao 0 cap] w fun e w' => e = .returned (.agg (Nd.arr N0)) ∧ Below w.heap.size w w'
    clear hZ
    go_enter Try.func14, Try.ntmps14
    go_wp2_with (first
      | (refine wpList_alloc_named rfl 53 rfl Zn run_zero53 ?_)
      | (refine wpList_build_named rfl 53 _ rfl #[] (by simp) (Nd.arr N0) run_build53_zero ?_)
      | (refine wpList_store_last rfl 53 (.tmp 2) (.tmp 6) rfl w.heap.size Zn (Nd.arr N0) rfl rfl rfl Try.size53 rfl (Nd.arr_one _) ?_))
    refine bodyPost_ret (results_cell_row Try.results14 _ _ w.heap.size 53 (Nd.arr N0) (0, 0) _ rfl (heap_alloc_last w _) Try.underlying53 rfl Try.size53) rfl ?_
    exact ⟨rfl, (Below.refl _ _).alloc (Nat.le_refl _) _⟩
  · obtain ⟨b, off, rfl, nd, hnd, c1, c2, c3, c4, c5⟩ := hZ.at 0 (by omega)
    have e : rootNd zs = nd := by rw [rootNd, headD_getD]; exact hnd
    rw [e]
    clear e hnd hZ
    obtain ⟨kk, aa, ll, cc, oo, ss, ee⟩ := nd
    simp only [Nat.zero_mul, Nat.add_zero] at c1 c2 c3 c4 c5
    have hne : ((len : Int) == 0) = false := by simp; omega
    have hp : (0 : Int) < (len : Int) := by omega
    have hb : b < w.heap.size := World.block_lt_of_cell? w _ c1
    have cT := toNode_any kk aa ll cc oo ss ee (w.alloc (.cells Zn 53))
    have hS := heap_alloc_last w (.cells Zn 53)
    go_enter Try.func14, Try.ntmps14
    go_wp2_with (first
      | (refine wpList_alloc_named rfl 53 rfl Zn run_zero53 ?_)
      | (go_at_call 13; refine cT.mono ?_; rintro e W2 ⟨rfl, hB2⟩; have hg2 : W2.heap[w.heap.size]? = some (.cells Zn 53 (0, 0)) := (hB2.block w.heap.size (by simp)).trans hS)
      | (refine wpList_store_row rfl 53 (.tmp 2) (.tmp 10) rfl w.heap.size (Nd.arr ⟨kk, aa, ll, cc, oo, ss, ee⟩) rfl rfl 53 Zn hg2 Try.size53 rfl (Nd.arr_one _) ?_))
    refine bodyPost_ret (results_cell_row Try.results14 _ _ w.heap.size 53 (Nd.arr ⟨kk, aa, ll, cc, oo, ss, ee⟩) (0, 0) _ rfl (setRow_heap _ _ Zn _ 53 _ hg2) Try.underlying53 rfl Try.size53) rfl ?_
    exact ⟨rfl, below_setRow' (((Below.refl _ _).alloc (Nat.le_refl _) _).trans (hB2.mono (by simp))) (Nat.le_refl _) _⟩

end Go.Proofs.Qxb6627411a
