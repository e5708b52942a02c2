/-
  chunksOf (7), endsInRange (6), buildNodes (8), rootOf (14).
-/
import Derived.Test.Qxb6627411aWalks
namespace Go.Proofs.Qxb6627411a
open Go.RowKit
set_option linter.unusedSimpArgs false
set_option linter.unusedVariables false

def g17 : List Value := List.replicate 16 (.int .u8 0) ++ [.int .u32 0]
def g17s : List Value := List.replicate 16 (.int .u8 0) ++ [.int .u64 0]
/-- A revision that holds nothing but nodes. -/
def Rv (a : Option Addr) (n c : Nat) : Array Value := (g17 ++ (g17 ++ g17s) ++ g17 ++ (g17 ++ g17) ++ [Value.slice none 0 0, Value.slice none 0 0, Value.slice a n c]).toArray

theorem run_build49 (a : Option Addr) (n c : Nat) (w : World) : (Instr.build 49 #[(6, .slice a n c)]).run Try.prog w = .ok (.agg (Rv a n c)) w := by kernel_rfl
theorem Rv_104 (a : Option Addr) (n c : Nat) : (Rv a n c)[104]? = some (.slice a n c) := by kernel_rfl

theorem NRow.below {w w' : World} {ao : Option Addr} {ns : List Nd} (h : NRow w ao ns) (hb : Below w.heap.size w w') : NRow w' ao ns := by
  obtain ⟨h1, h2⟩ := h
  refine ⟨h1, fun h0 => ?_⟩
  obtain ⟨g, e, hc⟩ := h2 h0
  refine ⟨g, e, fun i hi => ?_⟩
  obtain ⟨c1, c2, c3⟩ := hc i hi
  have hg : g < w.heap.size := World.block_lt_of_cell? w _ c1
  rw [hb.cell (p := ⟨g, i * 40 + 34, none⟩) hg, hb.cell (p := ⟨g, i * 40 + 35, none⟩) hg, hb.cell (p := ⟨g, i * 40 + 38, none⟩) hg]
  exact ⟨c1, c2, c3⟩

theorem chunksOf_any (ao : Option Addr) (cap len : Nat) (ns : List Nd) (w : World) (hlen : ns.length = len) (hN : NRow w ao ns) (hok : Pl.Ok (ns.map pv)) :
    Calls Try.prog 7 #[.slice ao len cap] w fun e w' => e = .returned (.int .i64 (Pl.C (ns.map pv) 1)) ∧ Below w.heap.size w w' := by
  have hB0 : Below w.heap.size w (w.alloc (.cells (Rv ao len cap) 49)) := (Below.refl _ _).alloc (Nat.le_refl _) _
  have hcell : (w.alloc (.cells (Rv ao len cap) 49)).cell? ⟨w.heap.size, 104, none⟩ = some (.slice ao len cap) := by
    rw [cell_of_row _ _ _ _ 49 (0, 0) (heap_alloc_new w _)]; exact Rv_104 _ _ _
  have c12 := chunks_any w.heap.size ao cap len ns _ hlen hcell (hN.below hB0) hok
  clear hcell hok hN hlen
  go_enter Try.func7, Try.ntmps7
  go_wp2_with (first
    | (refine wpList_build_named rfl 49 _ rfl #[(6, .slice ao len cap)] (by simp [Act.eval]) (Rv ao len cap) (run_build49 ao len cap) ?_)
    | (go_at_call 12; refine c12.mono ?_; rintro e w' ⟨rfl, rfl⟩))
  go_ret
  exact ⟨rfl, hB0⟩

/-- What is known of a slice of plain nodes that came in. -/
def ZRow (w : World) (ao : Option Addr) (len : Nat) (zs : List Nd) : Prop :=
  zs.length = len ∧ (len ≠ 0 → ∃ b off, ao = some ⟨b, off, none⟩ ∧ ∀ i, i < len →
    w.cell? ⟨b, off + i * 5, none⟩ = some (.int .i64 (zs.getD i N0).k) ∧ w.cell? ⟨b, off + i * 5 + 1, none⟩ = some (.slice (zs.getD i N0).a (zs.getD i N0).l (zs.getD i N0).c) ∧
    w.cell? ⟨b, off + i * 5 + 2, none⟩ = some (.int .i64 (zs.getD i N0).o) ∧ w.cell? ⟨b, off + i * 5 + 3, none⟩ = some (.int .i64 (zs.getD i N0).s) ∧ w.cell? ⟨b, off + i * 5 + 4, none⟩ = some (.int .i64 (zs.getD i N0).e))

theorem ZRow.below {w w' : World} {ao : Option Addr} {len : Nat} {zs : List Nd} (h : ZRow w ao len zs) (hb : Below w.heap.size w w') : ZRow w' ao len zs := by
  obtain ⟨h1, h2⟩ := h
  refine ⟨h1, fun h0 => ?_⟩
  obtain ⟨b, off, e, hc⟩ := h2 h0
  refine ⟨b, off, e, fun i hi => ?_⟩
  obtain ⟨c1, c2, c3, c4, c5⟩ := hc i hi
  have hg : b < w.heap.size := World.block_lt_of_cell? w _ c1
  rw [hb.cell (p := ⟨b, off + i * 5, none⟩) hg, hb.cell (p := ⟨b, off + i * 5 + 1, none⟩) hg, hb.cell (p := ⟨b, off + i * 5 + 2, none⟩) hg, hb.cell (p := ⟨b, off + i * 5 + 3, none⟩) hg, hb.cell (p := ⟨b, off + i * 5 + 4, none⟩) hg]
  exact ⟨c1, c2, c3, c4, c5⟩

/-- One node's cells, under one name. -/
theorem ZRow.at {w : World} {ao : Option Addr} {len : Nat} {zs : List Nd} (h : ZRow w ao len zs) (i : Nat) (hi : i < len) :
    ∃ b off, ao = some ⟨b, off, none⟩ ∧ ∃ nd, zs.getD i N0 = nd ∧ w.cell? ⟨b, off + i * 5, none⟩ = some (.int .i64 nd.k) ∧ w.cell? ⟨b, off + i * 5 + 1, none⟩ = some (.slice nd.a nd.l nd.c) ∧
      w.cell? ⟨b, off + i * 5 + 2, none⟩ = some (.int .i64 nd.o) ∧ w.cell? ⟨b, off + i * 5 + 3, none⟩ = some (.int .i64 nd.s) ∧ w.cell? ⟨b, off + i * 5 + 4, none⟩ = some (.int .i64 nd.e) := by
  obtain ⟨b, off, e, hc⟩ := h.2 (by omega)
  exact ⟨b, off, e, _, rfl, hc i hi⟩

/-- It answers; where it answers yes, 'p' holds; the world stands. -/
def Says (p : Prop) (w : World) (e : Ending) (w' : World) : Prop := ∃ b : Bool, e = .returned (.bool b) ∧ (b = true → p) ∧ w = w'

set_option maxHeartbeats 800000 in
theorem ends_any (ao : Option Addr) (len cap : Nat) (zs : List Nd) (w : World) (hZ : ZRow w ao len zs) (hlen : len ≤ 1048576) :
    Calls Try.prog 6 #[.slice ao len cap] w (Says (Pl.Ok (zs.map pv)) w) := by
  have HZ : Hid (ZRow w ao len zs) := hZ
  clear hZ
  go_enter Try.func6, Try.ntmps6
  go_wp2
  go_loop [3] (fun i => ∃ k : Nat, i = .int .i64 k ∧ 1 ≤ k ∧ (k ≤ len ∨ k = 1) ∧ Hid (∀ j, 1 ≤ j → j < k → j < len → (j : Int) < (zs.getD j N0).e ∧ (zs.getD j N0).e ≤ len)) (fun i => len - (intOf i).toNat)
  case atStart => exact ⟨1, rfl, by omega, by omega, fun j h1 h2 => by omega⟩
  case round =>
    obtain ⟨k, rfl, hk1, hk2, hall⟩ := hrel
    by_cases hlt : k < len
    · obtain ⟨b, off, rfl, nd, hnd, c1, c2, c3, c4, c5⟩ := HZ.out.at k hlt
      have HN : Hid (zs.getD k N0 = nd) := hnd
      clear hnd c1 c2 c3 c4
      obtain ⟨kk, aa, ll, cc, oo, ss, ee⟩ := nd
      simp only [] at c5
      by_cases h1 : ee ≤ (k : Int)
      · have hd : decide (ee ≤ (k : Int)) = true := by simpa using h1
        go_wp2
        go_ret
        exact ⟨false, rfl, by simp, rfl⟩
      · have hd : decide (ee ≤ (k : Int)) = false := by simpa using h1
        by_cases h2 : (len : Int) < ee
        · go_wp2
          go_ret
          exact ⟨false, rfl, by simp, rfl⟩
        · go_wp2
          go_round
          case rel => exact ⟨k + 1, by go_num, by omega, by omega, fun j hj1 hj2 hj3 => by
            by_cases e : j = k
            · rw [e, HN.out]; simp only []; omega
            · exact hall j hj1 (by omega) hj3⟩
          case measure => simp [intOf]; omega
    · have HO : Hid (Pl.Ok (zs.map pv)) := by
        intro i hi hlt'
        have hl : zs.length = len := HZ.out.1
        simp only [List.length_map] at hlt' ⊢
        rw [pv_at zs i hlt', hl]
        exact hall i hi (by omega) (by omega)
      go_wp2
      go_ret
      exact ⟨true, rfl, fun _ => HO, rfl⟩

end Go.Proofs.Qxb6627411a
