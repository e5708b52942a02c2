/-
  joinNodes (9).
-/
import Derived.Test.Qxb6627411aBuild
import Derived.Maps.AppendAt
namespace Go.Proofs.Qxb6627411a
open Go.RowKit
set_option linter.unusedSimpArgs false
set_option linter.unusedVariables false

/-- The cells of a list of nodes. -/
def flat (ns : List Nd) : List Value := ns.flatMap Nd.cells
theorem flat_nil : flat [] = [] := rfl
theorem flat_snoc (ns : List Nd) (n : Nd) : flat (ns ++ [n]) = flat ns ++ n.cells := by simp [flat]
theorem cells_length (n : Nd) : n.cells.length = 40 := rfl
theorem flat_length (ns : List Nd) : (flat ns).length = ns.length * 40 := by
  induction ns with
  | nil => rfl
  | cons n r ih =>
    have : flat (n :: r) = n.cells ++ flat r := by simp [flat]
    rw [this, List.length_append, ih, cells_length, List.length_cons]
    omega
theorem flat_at (ns : List Nd) (i j : Nat) (hi : i < ns.length) (hj : j < 40) : (flat ns)[i * 40 + j]? = (ns.getD i N0).cells[j]? := by
  induction ns generalizing i with
  | nil => simp at hi
  | cons n r ih =>
    have e : flat (n :: r) = n.cells ++ flat r := by simp [flat]
    rw [e]
    cases i with
    | zero => rw [List.getElem?_append_left (by rw [cells_length]; omega)]; simp
    | succ i =>
      rw [List.getElem?_append_right (by rw [cells_length]; omega), cells_length]
      have : (i + 1) * 40 + j - 40 = i * 40 + j := by omega
      rw [this, ih i (by simpa using hi)]
      simp

theorem NRow.of_own {w : World} {base : Nat} {v : Value} {n : Nat} {ns : List Nd} (h : w.ownsRow base 53 40 v n (flat ns)) (hn : n ≤ 3000000) : ∃ ao c, v = .slice ao n c ∧ NRow w ao ns ∧ ns.length = n := by
  have hl : ns.length = n := by have := h.1; rw [flat_length] at this; omega
  have H := h
  rcases h.2 with ⟨rfl, rfl⟩ | ⟨g, cap, cur, rfl, hb, hg, _⟩
  · exact ⟨none, 0, rfl, ⟨by omega, fun h => absurd (List.eq_nil_of_length_eq_zero hl) h⟩, hl⟩
  · refine ⟨some ⟨g, 0, none⟩, cap, rfl, ⟨by omega, fun _ => ⟨g, rfl, fun i hi => ?_⟩⟩, hl⟩
    rw [H.cellAt _ (by omega), H.cellAt _ (by omega), H.cellAt _ (by omega), flat_at ns i 34 hi (by omega), flat_at ns i 35 hi (by omega), flat_at ns i 38 hi (by omega)]
    exact ⟨rfl, rfl, rfl⟩

theorem ownsRow_below {w w' : World} {base e size n : Nat} {v : Value} {xs : List Value} (h : w.ownsRow base e size v n xs) (hb : Below w.heap.size w w') : w'.ownsRow base e size v n xs :=
  h.kept (row := none) ⟨hb.os, hb.tape, hb.output, hb.size, fun k hk _ => hb.block k hk⟩ (by cases hv : v.ownBlock <;> simp)

/-- A node with another end. -/
def Nd.withE (n : Nd) (e : Int) : Nd := ⟨n.k, n.a, n.l, n.c, n.o, n.s, e⟩
theorem Nd.arr_setE (n : Nd) (v : Int) : n.arr.setIfInBounds 38 (.int .i64 v) = (n.withE v).arr := rfl

theorem run_slice1 (n : Nd) (w : World) : (Instr.buildSlice 29 1 #[(0, .agg n.arr)]).run Try.prog w = .ok (.slice (some ⟨w.heap.size, 0, none⟩) 1 1) (w.alloc (.cells n.arr 53)) := by kernel_rfl

theorem one_new (w : World) (n : Nd) (g : Nat) (hg : g = w.heap.size) : ∀ j u, n.cells[j]? = some u → (w.alloc (.cells n.arr 53)).cell? ((⟨g, 0, none⟩ : Addr).add j) = some u := by
  subst hg
  intro j u hu
  rw [Addr.add_lit, Nat.zero_add, cell_of_row _ _ _ _ 53 (0, 0) (heap_alloc_new w _)]
  show n.cells.toArray[j]? = some u
  simpa using hu
theorem cells_one (n : Nd) : ∀ u ∈ n.cells, u.oneCell' = true := by
  intro u hu
  have h := Array.all_eq_true_iff_forall_mem.1 (Nd.arr_one n) u (by simpa [Nd.arr] using hu)
  exact h

theorem take_tail (xs : List Nd) (k : Nat) (h1 : 1 ≤ k) (h2 : k < xs.length) : (xs.take (k + 1)).tail = (xs.take k).tail ++ [xs.getD k N0] := by
  rw [List.take_succ_eq_append_getElem h2, List.tail_append_of_ne_nil (by intro h; have := congrArg List.length h; rw [List.length_take, List.length_nil] at this; omega)]
  simp [List.getD, h2]
theorem take_all (xs : List Nd) (k : Nat) (h : xs.length ≤ k) : (xs.take k).tail = xs.tail := by rw [List.take_of_length_le h]

/-- What joinNodes hands back. -/
def Joined (xs ys : List Nd) (la lb : Nat) (w : World) (e : Ending) (w' : World) : Prop :=
  ∃ r n ao c, e = .returned (.slice ao n c) ∧ n = 1 + (la - 1) + (lb - 1) ∧ NRow w' ao (r :: (xs.tail ++ ys.tail.map fun y => y.withE (y.e + ((1 + (la - 1) : Nat) : Int) - 1))) ∧ Below w.heap.size w w'

/-- The nodes so far, under names that the walk leaves standing. -/
def al (r : Nd) (xs : List Nd) (k : Nat) : List Nd := r :: (xs.take k).tail
def bl (r : Nd) (xs ys : List Nd) (m k : Nat) : List Nd := r :: (xs.tail ++ (ys.take k).tail.map fun y => y.withE (y.e + (m : Int) - 1))

theorem step_a (r : Nd) (xs : List Nd) (k : Nat) (h1 : 1 ≤ k) (h2 : k < xs.length) (nd : Nd) (hnd : xs.getD k N0 = nd) : flat (al r xs k) ++ nd.cells = flat (al r xs (k + 1)) := by
  unfold al
  rw [take_tail xs k h1 h2, hnd, ← List.cons_append, flat_snoc]
theorem step_b (r : Nd) (xs ys : List Nd) (m k : Nat) (h1 : 1 ≤ k) (h2 : k < ys.length) (nd : Nd) (hnd : ys.getD k N0 = nd) (v : Int) (hv : v = nd.e + (m : Int) - 1) :
    flat (bl r xs ys m k) ++ (nd.withE v).cells = flat (bl r xs ys m (k + 1)) := by
  subst hv
  have e : bl r xs ys m (k + 1) = bl r xs ys m k ++ [nd.withE (nd.e + (m : Int) - 1)] := by
    unfold bl
    rw [take_tail ys k h1 h2, hnd]
    simp
  rw [e, flat_snoc]
theorem al_one (r : Nd) (xs : List Nd) : al r xs 1 = [r] := by cases xs <;> simp [al]
theorem al_end (r : Nd) (xs ys : List Nd) (m k : Nat) (h : xs.length ≤ k) : al r xs k = bl r xs ys m 1 := by
  have e : (ys.take 1).tail = [] := by cases ys <;> simp
  simp [al, bl, take_all xs k h, e]
theorem bl_end (r : Nd) (xs ys : List Nd) (m k : Nat) (h : ys.length ≤ k) : bl r xs ys m k = r :: (xs.tail ++ ys.tail.map fun y => y.withE (y.e + (m : Int) - 1)) := by
  simp only [bl, take_all ys k h]

attribute [local go_sem] Nd.arr_setE Nd.arr38

set_option maxHeartbeats 1600000 in
theorem join_ab (ao bo : Option Addr) (la ca lb cb : Nat) (xs ys : List Nd) (w : World) (hA : ZRow w ao la xs) (hB : ZRow w bo lb ys) (hla : la ≤ 1100000) (hlb : lb ≤ 1100000) (hoB : Pl.Ok (ys.map pv)) (ha : la ≠ 0) (hb : 1 < lb) :
    Calls Try.prog 9 #[.slice ao la ca, .slice bo lb cb] w (Joined xs ys la lb w) := by
  obtain ⟨i0, hi, hz0, hz1, hz2⟩ := info_parts Try.info53
  have HA : Hid (ZRow w ao la xs) := hA
  have HB : Hid (ZRow w bo lb ys) := hB
  have HOB : Hid (Pl.Ok (ys.map pv)) := hoB
  clear hA hB hoB
  have hab : ((la : Int) == 0) = false := by simp; omega
  go_enter Try.func9, Try.ntmps9
  go_wp2_with (at_make; refine wpList_make_own _ rfl _ _ 29 rfl w.heap.size 53 i0 (.agg Zn) 40 Try.underlying29 hi hz0 hz1 _ _ _ (1 + (la - 1) + (lb - 1)) rfl rfl ?a0 ?a1 ?a2 ?a3 ?_)
  case a0 => omega
  case a1 => rw [hz2]; omega
  case a2 => unfold maxLen; omega
  case a3 => exact Nat.le_refl _
  intro w1 hown1 hg1
  have hB1 : Below w.heap.size w w1 := (Below.refl _ _).grown hg1 (Nat.le_refl _) (fun k hk => by cases hk)
  clear hg1
  have cR := root_any ao la ca xs w1 (HA.out.below hB1)
  obtain ⟨rt, hrt⟩ : ∃ rt, rootNd xs = rt := ⟨_, rfl⟩
  rw [hrt] at cR
  clear hrt
  go_wp2_with (first
    | (go_at_call 14; refine cR.mono ?_; rintro e W2 ⟨rfl, hB2⟩; have hown2 := ownsRow_below hown1 hB2)
    | (refine op_is (.alloc 53) rfl ?_; refine wpList_alloc_named rfl 53 rfl Zn run_zero53 ?_)
    | (refine op_is (.store 53 (.tmp 8) (.tmp 27)) rfl ?_; refine wpList_store_last rfl 53 (.tmp 8) (.tmp 27) rfl W2.heap.size Zn rt.arr rfl rfl rfl Try.size53 rfl (Nd.arr_one _) ?_)
    | (refine op_is (.load 53 (.tmp 8)) rfl ?_; refine wpList_load_last rfl 53 (.tmp 8) rfl W2.heap.size (rt.withE ((la : Int) + ((lb : Int) - 1))).arr rfl rfl _ Try.underlying53 rfl Try.size53 ?_)
    | (refine op_is (.buildSlice 29 1 #[(0, .tmp 33)]) rfl ?_; refine wpList_buildSlice_named rfl 29 53 _ 1 rfl #[(0, .agg (rt.withE ((la : Int) + ((lb : Int) - 1))).arr)] (by simp only [List.map_toArray, List.map_cons, List.map_nil]; rfl) _ (run_slice1 (rt.withE ((la : Int) + ((lb : Int) - 1)))) ?_)
    | (at_builtin; go_must (refine wpList_append_own _ rfl (.tmp 32) (.tmp 34) 29 rfl w.heap.size 53 i0 (.agg Zn) 40 104 Try.underlying29 hi hz0 hz1 hz2 rfl (by decide) _ 0 [] rfl ((hown2.alloc _).alloc _) ⟨_, 0, none⟩ 1 1 (rt.withE ((la : Int) + ((lb : Int) - 1))).cells rfl rfl ?b0 (cells_one _) ?b1 ?b2 ?b3 ?_))
    | fail)
  case b0 => exact one_new _ _ _ rfl
  case b1 => unfold maxLen; omega
  case b2 => omega
  case b3 => have := hB1.size; have := hB2.size; simp; omega
  intro v3 w3 hown3 hg3 _
  have hB3 : Below w.heap.size w w3 := (((hB1.trans (hB2.mono hB1.size)).alloc (Nat.le_trans hB1.size hB2.size) _).alloc (by have := hB1.size; have := hB2.size; simp; omega) _).grown hg3 (by have := hB1.size; have := hB2.size; simp; omega) (fun k hk => by simp [Value.ownBlock] at hk; omega)
  obtain ⟨r, hr⟩ : ∃ r, rt.withE ((la : Int) + ((lb : Int) - 1)) = r := ⟨_, rfl⟩
  have hown3' : w3.ownsRow w.heap.size 53 40 v3 1 (flat [r]) := by rw [← hr]; simpa [flat] using hown3
  clear hg3 hr hown3 hown2 cR hown1
  go_wp2
  go_loopw [7, 9] (fun v i wr => ∃ k : Nat, i = .int .i64 k ∧ 1 ≤ k ∧ (k ≤ la ∨ k = 1) ∧ wr.ownsRow w.heap.size 53 40 v k (flat (al r xs k)) ∧ Below w.heap.size w wr) (fun _ i _ => la - (intOf i).toNat)
  case atStart =>
    refine ⟨1, rfl, by omega, by omega, ?_, hB3⟩
    rw [al_one]; exact hown3'
  case round =>
    obtain ⟨k, rfl, hk1, hk2, hown, hBk⟩ := hrel
    by_cases hlt : k < la
    · obtain ⟨b, off, rfl, nd, hnd, c1, c2, c3, c4, c5⟩ := (HA.out.below hBk).at k hlt
      have HN : Hid (xs.getD k N0 = nd) := hnd
      clear hnd
      obtain ⟨kk, aa, ll, cc, oo, ss, ee⟩ := nd
      simp only [] at c1 c2 c3 c4 c5
      have cT := toNode_any kk aa ll cc oo ss ee wr
      go_wp2_with (first
        | (go_at_call 13; refine cT.mono ?_; rintro e W4 ⟨rfl, hB4⟩; have hown4 := ownsRow_below hown hB4)
        | (refine op_is (.buildSlice 29 1 #[(0, .tmp 47)]) rfl ?_; refine wpList_buildSlice_named rfl 29 53 _ 1 rfl #[(0, .agg (Nd.arr ⟨kk, aa, ll, cc, oo, ss, ee⟩))] (by simp only [List.map_toArray, List.map_cons, List.map_nil]; rfl) _ (run_slice1 ⟨kk, aa, ll, cc, oo, ss, ee⟩) ?_)
        | (at_builtin; go_must (refine wpList_append_own _ rfl (.tmp 42) (.tmp 48) 29 rfl w.heap.size 53 i0 (.agg Zn) 40 104 Try.underlying29 hi hz0 hz1 hz2 rfl (by decide) _ k _ rfl (hown4.alloc _) ⟨_, 0, none⟩ 1 1 (Nd.cells ⟨kk, aa, ll, cc, oo, ss, ee⟩) rfl rfl ?b0 (cells_one _) ?b1 ?b2 ?b3 ?_))
        | fail)
      case b0 => exact one_new _ _ _ rfl
      case b1 => unfold maxLen; omega
      case b2 => omega
      case b3 => have := hBk.size; have := hB4.size; simp; omega
      intro v5 w5 hown5 hg5 _
      have hB5 : Below w.heap.size w w5 := ((hBk.trans (hB4.mono hBk.size)).alloc (Nat.le_trans hBk.size hB4.size) _).grown hg5 (by have := hBk.size; have := hB4.size; simp; omega) (fun j hj => (hown.lt j hj).1)
      rw [step_a r xs k hk1 (by have := HA.out.1; omega) _ HN.out] at hown5
      clear hg5 hown4 cT hown c1 c2 c3 c4 c5
      go_wp2
      go_roundw
      case rel => exact ⟨k + 1, by go_num, by omega, by omega, hown5, hB5⟩
      case measure => simp [intOf]; omega
    · rw [al_end r xs ys (1 + (la - 1)) k (by have := HA.out.1; omega)] at hown
      have hkm : k = 1 + (la - 1) := by omega
      rw [hkm] at hown
      clear hkm
      go_wp2
      go_loopw [7, 10] (fun v i wr => ∃ q : Nat, i = .int .i64 q ∧ 1 ≤ q ∧ (q ≤ lb ∨ q = 1) ∧ wr.ownsRow w.heap.size 53 40 v (1 + (la - 1) + (q - 1)) (flat (bl r xs ys (1 + (la - 1)) q)) ∧ Below w.heap.size w wr) (fun _ i _ => lb - (intOf i).toNat)
      case atStart =>
        refine ⟨1, rfl, by omega, by omega, ?_, hBk⟩
        exact hown
      case round =>
        clear hown
        obtain ⟨q, rfl, hq1, hq2, hown, hBq⟩ := hrel
        by_cases hlt2 : q < lb
        · obtain ⟨b, off, rfl, nd, hnd, c1, c2, c3, c4, c5⟩ := (HB.out.below hBq).at q hlt2
          have HN : Hid (ys.getD q N0 = nd) := hnd
          have hoq := HOB.out q hq1 (by have := HB.out.1; simp; omega)
          rw [pv_at ys q (by have := HB.out.1; omega), hnd] at hoq
          have hl3 : (ys.map pv).length = lb := by have := HB.out.1; simp [this]
          rw [hl3] at hoq
          clear hnd hl3
          obtain ⟨kk, aa, ll, cc, oo, ss, ee⟩ := nd
          simp only [pv] at c1 c2 c3 c4 c5 hoq
          have ho1 := hoq.1
          have ho2 := hoq.2
          clear hoq
          have hbw : b < wr.heap.size := World.block_lt_of_cell? _ _ c1
          have cT := toNode_any kk aa ll cc oo ss ee wr
          go_wp2_with (first
            | (go_at_call 13; refine cT.mono ?_; rintro e W4 ⟨rfl, hB4⟩; have hown4 := ownsRow_below hown hB4; have hb4 := Nat.lt_of_lt_of_le hbw hB4.size; have c6 := (hB4.cell (p := ⟨b, off + q * 5 + 4, none⟩) hbw).trans c5)
            | (refine op_is (.alloc 53) rfl ?_; refine wpList_alloc_named rfl 53 rfl Zn run_zero53 ?_)
            | (refine op_is (.store 53 (.tmp 11) (.tmp 60)) rfl ?_; refine wpList_store_last rfl 53 (.tmp 11) (.tmp 60) rfl W4.heap.size Zn (Nd.arr ⟨kk, aa, ll, cc, oo, ss, ee⟩) rfl rfl rfl Try.size53 rfl (Nd.arr_one _) ?_)
            | (refine op_is (.load 53 (.tmp 11)) rfl ?_; refine wpList_load_last rfl 53 (.tmp 11) rfl W4.heap.size (Nd.withE ⟨kk, aa, ll, cc, oo, ss, ee⟩ (ee + (la : Int) - 1)).arr rfl rfl _ Try.underlying53 rfl Try.size53 ?_)
            | (refine op_is (.buildSlice 29 1 #[(0, .tmp 71)]) rfl ?_; refine wpList_buildSlice_named rfl 29 53 _ 1 rfl #[(0, .agg (Nd.withE ⟨kk, aa, ll, cc, oo, ss, ee⟩ (ee + (la : Int) - 1)).arr)] (by simp only [List.map_toArray, List.map_cons, List.map_nil]; rfl) _ (run_slice1 (Nd.withE ⟨kk, aa, ll, cc, oo, ss, ee⟩ (ee + (la : Int) - 1))) ?_)
            | (at_builtin; go_must (refine wpList_append_own _ rfl (.tmp 70) (.tmp 72) 29 rfl w.heap.size 53 i0 (.agg Zn) 40 104 Try.underlying29 hi hz0 hz1 hz2 rfl (by decide) _ (1 + (la - 1) + (q - 1)) _ rfl ((hown4.alloc _).alloc _) ⟨_, 0, none⟩ 1 1 (Nd.withE ⟨kk, aa, ll, cc, oo, ss, ee⟩ (ee + (la : Int) - 1)).cells rfl rfl ?e0 (cells_one _) ?e1 ?e2 ?e3 ?_))
            | fail)
          case e0 => exact one_new _ _ _ rfl
          case e1 => unfold maxLen; omega
          case e2 => omega
          case e3 => have := hBq.size; have := hB4.size; simp; omega
          intro v5 w5 hown5 hg5 _
          have hB5 : Below w.heap.size w w5 := (((hBq.trans (hB4.mono hBq.size)).alloc (Nat.le_trans hBq.size hB4.size) _).alloc (by have := hBq.size; have := hB4.size; simp; omega) _).grown hg5 (by have := hBq.size; have := hB4.size; simp; omega) (fun j hj => (hown.lt j hj).1)
          rw [step_b r xs ys (1 + (la - 1)) q hq1 (by have := HB.out.1; omega) _ HN.out _ (by simp only []; omega)] at hown5
          have hcnt : 1 + (la - 1) + (q - 1) + 1 = 1 + (la - 1) + (q + 1 - 1) := by omega
          rw [hcnt] at hown5
          clear hg5 hown4 cT hown c1 c2 c3 c4 c5 c6 hcnt
          go_wp2
          go_roundw
          case rel => exact ⟨q + 1, by go_num, by omega, by omega, hown5, hB5⟩
          case measure => simp [intOf]; omega
        · rw [bl_end r xs ys _ q (by have := HB.out.1; omega)] at hown
          have hqm : q - 1 = lb - 1 := by omega
          rw [hqm] at hown
          clear hqm
          obtain ⟨ao', c', hv, hrow, _⟩ := NRow.of_own hown (by omega)
          rw [hv]
          clear hv hown
          go_wp2
          go_ret
          exact ⟨r, _, ao', c', rfl, rfl, hrow, hBq⟩

set_option maxHeartbeats 1600000 in
theorem join_a0 (ao bo : Option Addr) (la ca lb cb : Nat) (xs ys : List Nd) (w : World) (hA : ZRow w ao la xs) (hB : ZRow w bo lb ys) (hla : la ≤ 1100000) (hlb : lb ≤ 1100000) (hoB : Pl.Ok (ys.map pv)) (ha : la ≠ 0) (hb : lb ≤ 1) :
    Calls Try.prog 9 #[.slice ao la ca, .slice bo lb cb] w (Joined xs ys la lb w) := by
  obtain ⟨i0, hi, hz0, hz1, hz2⟩ := info_parts Try.info53
  have HA : Hid (ZRow w ao la xs) := hA
  have HB : Hid (ZRow w bo lb ys) := hB
  have HOB : Hid (Pl.Ok (ys.map pv)) := hoB
  clear hA hB hoB
  have hab : ((la : Int) == 0) = false := by simp; omega
  go_enter Try.func9, Try.ntmps9
  go_wp2_with (at_make; refine wpList_make_own _ rfl _ _ 29 rfl w.heap.size 53 i0 (.agg Zn) 40 Try.underlying29 hi hz0 hz1 _ _ _ (1 + (la - 1) + (lb - 1)) rfl rfl ?a0 ?a1 ?a2 ?a3 ?_)
  case a0 => omega
  case a1 => rw [hz2]; omega
  case a2 => unfold maxLen; omega
  case a3 => exact Nat.le_refl _
  intro w1 hown1 hg1
  have hB1 : Below w.heap.size w w1 := (Below.refl _ _).grown hg1 (Nat.le_refl _) (fun k hk => by cases hk)
  clear hg1
  have cR := root_any ao la ca xs w1 (HA.out.below hB1)
  obtain ⟨rt, hrt⟩ : ∃ rt, rootNd xs = rt := ⟨_, rfl⟩
  rw [hrt] at cR
  clear hrt
  go_wp2_with (first
    | (go_at_call 14; refine cR.mono ?_; rintro e W2 ⟨rfl, hB2⟩; have hown2 := ownsRow_below hown1 hB2)
    | (refine op_is (.alloc 53) rfl ?_; refine wpList_alloc_named rfl 53 rfl Zn run_zero53 ?_)
    | (refine op_is (.store 53 (.tmp 8) (.tmp 27)) rfl ?_; refine wpList_store_last rfl 53 (.tmp 8) (.tmp 27) rfl W2.heap.size Zn rt.arr rfl rfl rfl Try.size53 rfl (Nd.arr_one _) ?_)
    | (refine op_is (.load 53 (.tmp 8)) rfl ?_; refine wpList_load_last rfl 53 (.tmp 8) rfl W2.heap.size (rt.withE (la : Int)).arr rfl rfl _ Try.underlying53 rfl Try.size53 ?_)
    | (refine op_is (.buildSlice 29 1 #[(0, .tmp 33)]) rfl ?_; refine wpList_buildSlice_named rfl 29 53 _ 1 rfl #[(0, .agg (rt.withE (la : Int)).arr)] (by simp only [List.map_toArray, List.map_cons, List.map_nil]; rfl) _ (run_slice1 (rt.withE (la : Int))) ?_)
    | (at_builtin; go_must (refine wpList_append_own _ rfl (.tmp 32) (.tmp 34) 29 rfl w.heap.size 53 i0 (.agg Zn) 40 104 Try.underlying29 hi hz0 hz1 hz2 rfl (by decide) _ 0 [] rfl ((hown2.alloc _).alloc _) ⟨_, 0, none⟩ 1 1 (rt.withE (la : Int)).cells rfl rfl ?b0 (cells_one _) ?b1 ?b2 ?b3 ?_))
    | fail)
  case b0 => exact one_new _ _ _ rfl
  case b1 => unfold maxLen; omega
  case b2 => omega
  case b3 => have := hB1.size; have := hB2.size; simp; omega
  intro v3 w3 hown3 hg3 _
  have hB3 : Below w.heap.size w w3 := (((hB1.trans (hB2.mono hB1.size)).alloc (Nat.le_trans hB1.size hB2.size) _).alloc (by have := hB1.size; have := hB2.size; simp; omega) _).grown hg3 (by have := hB1.size; have := hB2.size; simp; omega) (fun k hk => by simp [Value.ownBlock] at hk; omega)
  obtain ⟨r, hr⟩ : ∃ r, rt.withE (la : Int) = r := ⟨_, rfl⟩
  have hown3' : w3.ownsRow w.heap.size 53 40 v3 1 (flat [r]) := by rw [← hr]; simpa [flat] using hown3
  clear hg3 hr hown3 hown2 cR hown1
  go_wp2
  go_loopw [7, 9] (fun v i wr => ∃ k : Nat, i = .int .i64 k ∧ 1 ≤ k ∧ (k ≤ la ∨ k = 1) ∧ wr.ownsRow w.heap.size 53 40 v k (flat (al r xs k)) ∧ Below w.heap.size w wr) (fun _ i _ => la - (intOf i).toNat)
  case atStart =>
    refine ⟨1, rfl, by omega, by omega, ?_, hB3⟩
    rw [al_one]; exact hown3'
  case round =>
    obtain ⟨k, rfl, hk1, hk2, hown, hBk⟩ := hrel
    by_cases hlt : k < la
    · obtain ⟨b, off, rfl, nd, hnd, c1, c2, c3, c4, c5⟩ := (HA.out.below hBk).at k hlt
      have HN : Hid (xs.getD k N0 = nd) := hnd
      clear hnd
      obtain ⟨kk, aa, ll, cc, oo, ss, ee⟩ := nd
      simp only [] at c1 c2 c3 c4 c5
      have cT := toNode_any kk aa ll cc oo ss ee wr
      go_wp2_with (first
        | (go_at_call 13; refine cT.mono ?_; rintro e W4 ⟨rfl, hB4⟩; have hown4 := ownsRow_below hown hB4)
        | (refine op_is (.buildSlice 29 1 #[(0, .tmp 47)]) rfl ?_; refine wpList_buildSlice_named rfl 29 53 _ 1 rfl #[(0, .agg (Nd.arr ⟨kk, aa, ll, cc, oo, ss, ee⟩))] (by simp only [List.map_toArray, List.map_cons, List.map_nil]; rfl) _ (run_slice1 ⟨kk, aa, ll, cc, oo, ss, ee⟩) ?_)
        | (at_builtin; go_must (refine wpList_append_own _ rfl (.tmp 42) (.tmp 48) 29 rfl w.heap.size 53 i0 (.agg Zn) 40 104 Try.underlying29 hi hz0 hz1 hz2 rfl (by decide) _ k _ rfl (hown4.alloc _) ⟨_, 0, none⟩ 1 1 (Nd.cells ⟨kk, aa, ll, cc, oo, ss, ee⟩) rfl rfl ?b0 (cells_one _) ?b1 ?b2 ?b3 ?_))
        | fail)
      case b0 => exact one_new _ _ _ rfl
      case b1 => unfold maxLen; omega
      case b2 => omega
      case b3 => have := hBk.size; have := hB4.size; simp; omega
      intro v5 w5 hown5 hg5 _
      have hB5 : Below w.heap.size w w5 := ((hBk.trans (hB4.mono hBk.size)).alloc (Nat.le_trans hBk.size hB4.size) _).grown hg5 (by have := hBk.size; have := hB4.size; simp; omega) (fun j hj => (hown.lt j hj).1)
      rw [step_a r xs k hk1 (by have := HA.out.1; omega) _ HN.out] at hown5
      clear hg5 hown4 cT hown c1 c2 c3 c4 c5
      go_wp2
      go_roundw
      case rel => exact ⟨k + 1, by go_num, by omega, by omega, hown5, hB5⟩
      case measure => simp [intOf]; omega
    · rw [al_end r xs ys (1 + (la - 1)) k (by have := HA.out.1; omega)] at hown
      have hkm : k = 1 + (la - 1) := by omega
      rw [hkm] at hown
      clear hkm
      go_wp2
      go_loopw [7, 10] (fun v i wr => ∃ q : Nat, i = .int .i64 q ∧ 1 ≤ q ∧ (q ≤ lb ∨ q = 1) ∧ wr.ownsRow w.heap.size 53 40 v (1 + (la - 1) + (q - 1)) (flat (bl r xs ys (1 + (la - 1)) q)) ∧ Below w.heap.size w wr) (fun _ i _ => lb - (intOf i).toNat)
      case atStart =>
        refine ⟨1, rfl, by omega, by omega, ?_, hBk⟩
        exact hown
      case round =>
        clear hown
        obtain ⟨q, rfl, hq1, hq2, hown, hBq⟩ := hrel
        by_cases hlt2 : q < lb
        · exfalso; omega
        · rw [bl_end r xs ys _ q (by have := HB.out.1; omega)] at hown
          have hqm : q - 1 = lb - 1 := by omega
          rw [hqm] at hown
          clear hqm
          obtain ⟨ao', c', hv, hrow, _⟩ := NRow.of_own hown (by omega)
          rw [hv]
          clear hv hown
          go_wp2
          go_ret
          exact ⟨r, _, ao', c', rfl, rfl, hrow, hBq⟩

set_option maxHeartbeats 1600000 in
theorem join_0b (ao bo : Option Addr) (la ca lb cb : Nat) (xs ys : List Nd) (w : World) (hA : ZRow w ao la xs) (hB : ZRow w bo lb ys) (hla : la ≤ 1100000) (hlb : lb ≤ 1100000) (hoB : Pl.Ok (ys.map pv)) (ha : la < 1) (hb : 1 < lb) :
    Calls Try.prog 9 #[.slice ao la ca, .slice bo lb cb] w (Joined xs ys la lb w) := by
  obtain ⟨i0, hi, hz0, hz1, hz2⟩ := info_parts Try.info53
  have HA : Hid (ZRow w ao la xs) := hA
  have HB : Hid (ZRow w bo lb ys) := hB
  have HOB : Hid (Pl.Ok (ys.map pv)) := hoB
  clear hA hB hoB
  have hab : ((la : Int) == 0) = true := by simp; omega
  go_enter Try.func9, Try.ntmps9
  go_wp2_with (at_make; refine wpList_make_own _ rfl _ _ 29 rfl w.heap.size 53 i0 (.agg Zn) 40 Try.underlying29 hi hz0 hz1 _ _ _ (1 + (la - 1) + (lb - 1)) rfl rfl ?a0 ?a1 ?a2 ?a3 ?_)
  case a0 => omega
  case a1 => rw [hz2]; omega
  case a2 => unfold maxLen; omega
  case a3 => exact Nat.le_refl _
  intro w1 hown1 hg1
  have hB1 : Below w.heap.size w w1 := (Below.refl _ _).grown hg1 (Nat.le_refl _) (fun k hk => by cases hk)
  clear hg1
  have cR := root_any ao la ca xs w1 (HA.out.below hB1)
  obtain ⟨rt, hrt⟩ : ∃ rt, rootNd xs = rt := ⟨_, rfl⟩
  rw [hrt] at cR
  clear hrt
  go_wp2_with (first
    | (go_at_call 14; refine cR.mono ?_; rintro e W2 ⟨rfl, hB2⟩; have hown2 := ownsRow_below hown1 hB2)
    | (refine op_is (.alloc 53) rfl ?_; refine wpList_alloc_named rfl 53 rfl Zn run_zero53 ?_)
    | (refine op_is (.store 53 (.tmp 8) (.tmp 27)) rfl ?_; refine wpList_store_last rfl 53 (.tmp 8) (.tmp 27) rfl W2.heap.size Zn rt.arr rfl rfl rfl Try.size53 rfl (Nd.arr_one _) ?_)
    | (refine op_is (.load 53 (.tmp 8)) rfl ?_; refine wpList_load_last rfl 53 (.tmp 8) rfl W2.heap.size (rt.withE (1 + ((lb : Int) - 1))).arr rfl rfl _ Try.underlying53 rfl Try.size53 ?_)
    | (refine op_is (.buildSlice 29 1 #[(0, .tmp 33)]) rfl ?_; refine wpList_buildSlice_named rfl 29 53 _ 1 rfl #[(0, .agg (rt.withE (1 + ((lb : Int) - 1))).arr)] (by simp only [List.map_toArray, List.map_cons, List.map_nil]; rfl) _ (run_slice1 (rt.withE (1 + ((lb : Int) - 1)))) ?_)
    | (at_builtin; go_must (refine wpList_append_own _ rfl (.tmp 32) (.tmp 34) 29 rfl w.heap.size 53 i0 (.agg Zn) 40 104 Try.underlying29 hi hz0 hz1 hz2 rfl (by decide) _ 0 [] rfl ((hown2.alloc _).alloc _) ⟨_, 0, none⟩ 1 1 (rt.withE (1 + ((lb : Int) - 1))).cells rfl rfl ?b0 (cells_one _) ?b1 ?b2 ?b3 ?_))
    | fail)
  case b0 => exact one_new _ _ _ rfl
  case b1 => unfold maxLen; omega
  case b2 => omega
  case b3 => have := hB1.size; have := hB2.size; simp; omega
  intro v3 w3 hown3 hg3 _
  have hB3 : Below w.heap.size w w3 := (((hB1.trans (hB2.mono hB1.size)).alloc (Nat.le_trans hB1.size hB2.size) _).alloc (by have := hB1.size; have := hB2.size; simp; omega) _).grown hg3 (by have := hB1.size; have := hB2.size; simp; omega) (fun k hk => by simp [Value.ownBlock] at hk; omega)
  obtain ⟨r, hr⟩ : ∃ r, rt.withE (1 + ((lb : Int) - 1)) = r := ⟨_, rfl⟩
  have hown3' : w3.ownsRow w.heap.size 53 40 v3 1 (flat [r]) := by rw [← hr]; simpa [flat] using hown3
  clear hg3 hr hown3 hown2 cR hown1
  go_wp2
  go_loopw [7, 9] (fun v i wr => ∃ k : Nat, i = .int .i64 k ∧ 1 ≤ k ∧ (k ≤ la ∨ k = 1) ∧ wr.ownsRow w.heap.size 53 40 v k (flat (al r xs k)) ∧ Below w.heap.size w wr) (fun _ i _ => la - (intOf i).toNat)
  case atStart =>
    refine ⟨1, rfl, by omega, by omega, ?_, hB3⟩
    rw [al_one]; exact hown3'
  case round =>
    obtain ⟨k, rfl, hk1, hk2, hown, hBk⟩ := hrel
    by_cases hlt : k < la
    · exfalso; omega
    · rw [al_end r xs ys (1 + (la - 1)) k (by have := HA.out.1; omega)] at hown
      have hkm : k = 1 + (la - 1) := by omega
      rw [hkm] at hown
      clear hkm
      go_wp2
      go_loopw [7, 10] (fun v i wr => ∃ q : Nat, i = .int .i64 q ∧ 1 ≤ q ∧ (q ≤ lb ∨ q = 1) ∧ wr.ownsRow w.heap.size 53 40 v (1 + (la - 1) + (q - 1)) (flat (bl r xs ys (1 + (la - 1)) q)) ∧ Below w.heap.size w wr) (fun _ i _ => lb - (intOf i).toNat)
      case atStart =>
        refine ⟨1, rfl, by omega, by omega, ?_, hBk⟩
        exact hown
      case round =>
        clear hown
        obtain ⟨q, rfl, hq1, hq2, hown, hBq⟩ := hrel
        by_cases hlt2 : q < lb
        · obtain ⟨b, off, rfl, nd, hnd, c1, c2, c3, c4, c5⟩ := (HB.out.below hBq).at q hlt2
          have HN : Hid (ys.getD q N0 = nd) := hnd
          have hoq := HOB.out q hq1 (by have := HB.out.1; simp; omega)
          rw [pv_at ys q (by have := HB.out.1; omega), hnd] at hoq
          have hl3 : (ys.map pv).length = lb := by have := HB.out.1; simp [this]
          rw [hl3] at hoq
          clear hnd hl3
          obtain ⟨kk, aa, ll, cc, oo, ss, ee⟩ := nd
          simp only [pv] at c1 c2 c3 c4 c5 hoq
          have ho1 := hoq.1
          have ho2 := hoq.2
          clear hoq
          have hbw : b < wr.heap.size := World.block_lt_of_cell? _ _ c1
          have cT := toNode_any kk aa ll cc oo ss ee wr
          go_wp2_with (first
            | (go_at_call 13; refine cT.mono ?_; rintro e W4 ⟨rfl, hB4⟩; have hown4 := ownsRow_below hown hB4; have hb4 := Nat.lt_of_lt_of_le hbw hB4.size; have c6 := (hB4.cell (p := ⟨b, off + q * 5 + 4, none⟩) hbw).trans c5)
            | (refine op_is (.alloc 53) rfl ?_; refine wpList_alloc_named rfl 53 rfl Zn run_zero53 ?_)
            | (refine op_is (.store 53 (.tmp 11) (.tmp 60)) rfl ?_; refine wpList_store_last rfl 53 (.tmp 11) (.tmp 60) rfl W4.heap.size Zn (Nd.arr ⟨kk, aa, ll, cc, oo, ss, ee⟩) rfl rfl rfl Try.size53 rfl (Nd.arr_one _) ?_)
            | (refine op_is (.load 53 (.tmp 11)) rfl ?_; refine wpList_load_last rfl 53 (.tmp 11) rfl W4.heap.size (Nd.withE ⟨kk, aa, ll, cc, oo, ss, ee⟩ ee).arr rfl rfl _ Try.underlying53 rfl Try.size53 ?_)
            | (refine op_is (.buildSlice 29 1 #[(0, .tmp 71)]) rfl ?_; refine wpList_buildSlice_named rfl 29 53 _ 1 rfl #[(0, .agg (Nd.withE ⟨kk, aa, ll, cc, oo, ss, ee⟩ ee).arr)] (by simp only [List.map_toArray, List.map_cons, List.map_nil]; rfl) _ (run_slice1 (Nd.withE ⟨kk, aa, ll, cc, oo, ss, ee⟩ ee)) ?_)
            | (at_builtin; go_must (refine wpList_append_own _ rfl (.tmp 70) (.tmp 72) 29 rfl w.heap.size 53 i0 (.agg Zn) 40 104 Try.underlying29 hi hz0 hz1 hz2 rfl (by decide) _ (1 + (la - 1) + (q - 1)) _ rfl ((hown4.alloc _).alloc _) ⟨_, 0, none⟩ 1 1 (Nd.withE ⟨kk, aa, ll, cc, oo, ss, ee⟩ ee).cells rfl rfl ?e0 (cells_one _) ?e1 ?e2 ?e3 ?_))
            | fail)
          case e0 => exact one_new _ _ _ rfl
          case e1 => unfold maxLen; omega
          case e2 => omega
          case e3 => have := hBq.size; have := hB4.size; simp; omega
          intro v5 w5 hown5 hg5 _
          have hB5 : Below w.heap.size w w5 := (((hBq.trans (hB4.mono hBq.size)).alloc (Nat.le_trans hBq.size hB4.size) _).alloc (by have := hBq.size; have := hB4.size; simp; omega) _).grown hg5 (by have := hBq.size; have := hB4.size; simp; omega) (fun j hj => (hown.lt j hj).1)
          rw [step_b r xs ys (1 + (la - 1)) q hq1 (by have := HB.out.1; omega) _ HN.out _ (by simp only []; omega)] at hown5
          have hcnt : 1 + (la - 1) + (q - 1) + 1 = 1 + (la - 1) + (q + 1 - 1) := by omega
          rw [hcnt] at hown5
          clear hg5 hown4 cT hown c1 c2 c3 c4 c5 c6 hcnt
          go_wp2
          go_roundw
          case rel => exact ⟨q + 1, by go_num, by omega, by omega, hown5, hB5⟩
          case measure => simp [intOf]; omega
        · rw [bl_end r xs ys _ q (by have := HB.out.1; omega)] at hown
          have hqm : q - 1 = lb - 1 := by omega
          rw [hqm] at hown
          clear hqm
          obtain ⟨ao', c', hv, hrow, _⟩ := NRow.of_own hown (by omega)
          rw [hv]
          clear hv hown
          go_wp2
          go_ret
          exact ⟨r, _, ao', c', rfl, rfl, hrow, hBq⟩

set_option maxHeartbeats 1600000 in
theorem join_00 (ao bo : Option Addr) (la ca lb cb : Nat) (xs ys : List Nd) (w : World) (hA : ZRow w ao la xs) (hB : ZRow w bo lb ys) (hla : la ≤ 1100000) (hlb : lb ≤ 1100000) (hoB : Pl.Ok (ys.map pv)) (ha : la < 1) (hb : lb ≤ 1) :
    Calls Try.prog 9 #[.slice ao la ca, .slice bo lb cb] w (Joined xs ys la lb w) := by
  obtain ⟨i0, hi, hz0, hz1, hz2⟩ := info_parts Try.info53
  have HA : Hid (ZRow w ao la xs) := hA
  have HB : Hid (ZRow w bo lb ys) := hB
  have HOB : Hid (Pl.Ok (ys.map pv)) := hoB
  clear hA hB hoB
  have hab : ((la : Int) == 0) = true := by simp; omega
  go_enter Try.func9, Try.ntmps9
  go_wp2_with (at_make; refine wpList_make_own _ rfl _ _ 29 rfl w.heap.size 53 i0 (.agg Zn) 40 Try.underlying29 hi hz0 hz1 _ _ _ (1 + (la - 1) + (lb - 1)) rfl rfl ?a0 ?a1 ?a2 ?a3 ?_)
  case a0 => omega
  case a1 => rw [hz2]; omega
  case a2 => unfold maxLen; omega
  case a3 => exact Nat.le_refl _
  intro w1 hown1 hg1
  have hB1 : Below w.heap.size w w1 := (Below.refl _ _).grown hg1 (Nat.le_refl _) (fun k hk => by cases hk)
  clear hg1
  have cR := root_any ao la ca xs w1 (HA.out.below hB1)
  obtain ⟨rt, hrt⟩ : ∃ rt, rootNd xs = rt := ⟨_, rfl⟩
  rw [hrt] at cR
  clear hrt
  go_wp2_with (first
    | (go_at_call 14; refine cR.mono ?_; rintro e W2 ⟨rfl, hB2⟩; have hown2 := ownsRow_below hown1 hB2)
    | (refine op_is (.alloc 53) rfl ?_; refine wpList_alloc_named rfl 53 rfl Zn run_zero53 ?_)
    | (refine op_is (.store 53 (.tmp 8) (.tmp 27)) rfl ?_; refine wpList_store_last rfl 53 (.tmp 8) (.tmp 27) rfl W2.heap.size Zn rt.arr rfl rfl rfl Try.size53 rfl (Nd.arr_one _) ?_)
    | (refine op_is (.load 53 (.tmp 8)) rfl ?_; refine wpList_load_last rfl 53 (.tmp 8) rfl W2.heap.size (rt.withE 1).arr rfl rfl _ Try.underlying53 rfl Try.size53 ?_)
    | (refine op_is (.buildSlice 29 1 #[(0, .tmp 33)]) rfl ?_; refine wpList_buildSlice_named rfl 29 53 _ 1 rfl #[(0, .agg (rt.withE 1).arr)] (by simp only [List.map_toArray, List.map_cons, List.map_nil]; rfl) _ (run_slice1 (rt.withE 1)) ?_)
    | (at_builtin; go_must (refine wpList_append_own _ rfl (.tmp 32) (.tmp 34) 29 rfl w.heap.size 53 i0 (.agg Zn) 40 104 Try.underlying29 hi hz0 hz1 hz2 rfl (by decide) _ 0 [] rfl ((hown2.alloc _).alloc _) ⟨_, 0, none⟩ 1 1 (rt.withE 1).cells rfl rfl ?b0 (cells_one _) ?b1 ?b2 ?b3 ?_))
    | fail)
  case b0 => exact one_new _ _ _ rfl
  case b1 => unfold maxLen; omega
  case b2 => omega
  case b3 => have := hB1.size; have := hB2.size; simp; omega
  intro v3 w3 hown3 hg3 _
  have hB3 : Below w.heap.size w w3 := (((hB1.trans (hB2.mono hB1.size)).alloc (Nat.le_trans hB1.size hB2.size) _).alloc (by have := hB1.size; have := hB2.size; simp; omega) _).grown hg3 (by have := hB1.size; have := hB2.size; simp; omega) (fun k hk => by simp [Value.ownBlock] at hk; omega)
  obtain ⟨r, hr⟩ : ∃ r, rt.withE 1 = r := ⟨_, rfl⟩
  have hown3' : w3.ownsRow w.heap.size 53 40 v3 1 (flat [r]) := by rw [← hr]; simpa [flat] using hown3
  clear hg3 hr hown3 hown2 cR hown1
  go_wp2
  go_loopw [7, 9] (fun v i wr => ∃ k : Nat, i = .int .i64 k ∧ 1 ≤ k ∧ (k ≤ la ∨ k = 1) ∧ wr.ownsRow w.heap.size 53 40 v k (flat (al r xs k)) ∧ Below w.heap.size w wr) (fun _ i _ => la - (intOf i).toNat)
  case atStart =>
    refine ⟨1, rfl, by omega, by omega, ?_, hB3⟩
    rw [al_one]; exact hown3'
  case round =>
    obtain ⟨k, rfl, hk1, hk2, hown, hBk⟩ := hrel
    by_cases hlt : k < la
    · exfalso; omega
    · rw [al_end r xs ys (1 + (la - 1)) k (by have := HA.out.1; omega)] at hown
      have hkm : k = 1 + (la - 1) := by omega
      rw [hkm] at hown
      clear hkm
      go_wp2
      go_loopw [7, 10] (fun v i wr => ∃ q : Nat, i = .int .i64 q ∧ 1 ≤ q ∧ (q ≤ lb ∨ q = 1) ∧ wr.ownsRow w.heap.size 53 40 v (1 + (la - 1) + (q - 1)) (flat (bl r xs ys (1 + (la - 1)) q)) ∧ Below w.heap.size w wr) (fun _ i _ => lb - (intOf i).toNat)
      case atStart =>
        refine ⟨1, rfl, by omega, by omega, ?_, hBk⟩
        exact hown
      case round =>
        clear hown
        obtain ⟨q, rfl, hq1, hq2, hown, hBq⟩ := hrel
        by_cases hlt2 : q < lb
        · exfalso; omega
        · rw [bl_end r xs ys _ q (by have := HB.out.1; omega)] at hown
          have hqm : q - 1 = lb - 1 := by omega
          rw [hqm] at hown
          clear hqm
          obtain ⟨ao', c', hv, hrow, _⟩ := NRow.of_own hown (by omega)
          rw [hv]
          clear hv hown
          go_wp2
          go_ret
          exact ⟨r, _, ao', c', rfl, rfl, hrow, hBq⟩

theorem join_any (ao bo : Option Addr) (la ca lb cb : Nat) (xs ys : List Nd) (w : World) (hA : ZRow w ao la xs) (hB : ZRow w bo lb ys) (hla : la ≤ 1100000) (hlb : lb ≤ 1100000) (hoB : Pl.Ok (ys.map pv)) :
    Calls Try.prog 9 #[.slice ao la ca, .slice bo lb cb] w (Joined xs ys la lb w) := by
  by_cases ha : la = 0
  · by_cases hb : 1 < lb
    · exact join_0b ao bo la ca lb cb xs ys w hA hB hla hlb hoB (by omega) hb
    · exact join_00 ao bo la ca lb cb xs ys w hA hB hla hlb hoB (by omega) (by omega)
  · by_cases hb : 1 < lb
    · exact join_ab ao bo la ca lb cb xs ys w hA hB hla hlb hoB ha hb
    · exact join_a0 ao bo la ca lb cb xs ys w hA hB hla hlb hoB ha (by omega)

end Go.Proofs.Qxb6627411a
