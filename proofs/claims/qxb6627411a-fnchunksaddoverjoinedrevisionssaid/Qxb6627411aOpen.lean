/-
  A slice of plain nodes that came in, opened.
-/
import Derived.Test.Qxb6627411aChunks
import Derived.Deep.Slices
import Derived.Lib.SmallJoins
import Derived.ProofKit
import Derived.OpenShut
namespace Go.Proofs.Qxb6627411a
open Go.RowKit Go.ChangeShapes Go.WideShapes
set_option linter.unusedSimpArgs false
set_option linter.unusedVariables false

theorem cells26 : Try.prog.cellsOf 26 = 5 := by kernel_rfl
theorem cells3 : Try.prog.cellsOf 3 = 1 := by kernel_rfl
theorem cells24 : Try.prog.cellsOf 24 = 1 := by kernel_rfl
theorem cells2 : Try.prog.cellsOf 2 = 1 := by kernel_rfl

theorem five {α : Type} (l : List α) (h : l.length = 5) : ∃ a b c d e, l = [a, b, c, d, e] := by
  match l, h with
  | [a, b, c, d, e], _ => exact ⟨a, b, c, d, e, rfl⟩

theorem open_node {H : Type} {enc : TypeId × Value → H} {W : World} {n : Nat} {a : Addr} {i : Nat} {cs : List Value} {y : DataW H × List MemPlace} (h1 : W.cells? 0 (a.add (i * 5)) 5 = some cs) (h2 : DataW.trod enc Try.prog W 0 (fun _ => true) true n 26 cs = some y) :
    ∃ nd : Nd, W.cell? (a.add (i * 5)) = some (.int .i64 nd.k) ∧ W.cell? (a.add (i * 5 + 1)) = some (.slice nd.a nd.l nd.c) ∧ W.cell? (a.add (i * 5 + 2)) = some (.int .i64 nd.o) ∧ W.cell? (a.add (i * 5 + 3)) = some (.int .i64 nd.s) ∧ W.cell? (a.add (i * 5 + 4)) = some (.int .i64 nd.e) := by
  obtain ⟨_, hlen, hcell⟩ := World.cells?_some h1
  obtain ⟨v0, v1, v2, v3, v4, rfl⟩ := five cs hlen
  obtain ⟨xs, k, hk, hxy, _, hxl, hf⟩ := DataW.trod_struct Try.underlying26 h2
  obtain ⟨y0, y1, y2, y3, y4, rfl⟩ := five xs (by simpa using hxl)
  have e0 := hcell 0 (by omega)
  have e1 := hcell 1 (by omega)
  have e2 := hcell 2 (by omega)
  have e3 := hcell 3 (by omega)
  have e4 := hcell 4 (by omega)
  rw [Deep.add_add] at e0 e1 e2 e3 e4
  have g0 := hf 0 _ rfl
  have g1 := hf 1 _ rfl
  have g2 := hf 2 _ rfl
  have g3 := hf 3 _ rfl
  have g4 := hf 4 _ rfl
  simp [cells3, cells24, cells2] at g0 g1 g2 g3 g4 e0 e1 e2 e3 e4
  obtain ⟨x0, r0, _, _⟩ := DataW.trod_int Try.underlying3 g0
  obtain ⟨aa, ll, cc, r1⟩ := Joins.slice_form Try.underlying24 g1
  obtain ⟨x2, r2, _, _⟩ := DataW.trod_int Try.underlying2 g2
  obtain ⟨x3, r3, _, _⟩ := DataW.trod_int Try.underlying2 g3
  obtain ⟨x4, r4, _, _⟩ := DataW.trod_int Try.underlying3 g4
  simp at r0 r1 r2 r3 r4
  subst r0 r1 r2 r3 r4
  exact ⟨⟨x0, aa, ll, cc, x2, x3, x4⟩, e0, e1, e2, e3, e4⟩

theorem open_nodes {H : Type} {enc : TypeId × Value → H} {W : World} {fuel : Nat} {ao : Option Addr} {len cap : Nat} {x : DataW H × List MemPlace} (h : DataW.trod enc Try.prog W 0 (fun _ => true) true fuel 22 [.slice ao len cap] = some x) :
    ∃ zs : List Nd, ZRow W ao len zs ∧ (ao = none → len = 0 ∧ cap = 0) ∧ len ≤ maxLen := by
  rcases Deep.open_slice Try.underlying22 h with ⟨hcs, _⟩ | ⟨a, len', cap', m, n, D, Pl, hcs, _, hl, hm, hmm, _, hx⟩
  · simp at hcs
    obtain ⟨rfl, rfl, rfl⟩ := hcs
    exact ⟨[], ⟨rfl, fun h => absurd rfl h⟩, fun _ => ⟨rfl, rfl⟩, by simp [maxLen]⟩
  · simp at hcs
    obtain ⟨rfl, rfl, rfl⟩ := hcs
    simp only [if_true] at hmm
    rw [cells26] at hx
    obtain ⟨f, hf⟩ := @Deep.choose_lt Nd ⟨N0⟩ len (fun i nd => W.cell? (a.add (i * 5)) = some (.int .i64 nd.k) ∧ W.cell? (a.add (i * 5 + 1)) = some (.slice nd.a nd.l nd.c) ∧ W.cell? (a.add (i * 5 + 2)) = some (.int .i64 nd.o) ∧ W.cell? (a.add (i * 5 + 3)) = some (.int .i64 nd.s) ∧ W.cell? (a.add (i * 5 + 4)) = some (.int .i64 nd.e)) (fun i hi => by
      obtain ⟨cs', h1, h2⟩ := hx i (by omega)
      exact open_node h1 h2)
    refine ⟨(List.range len).map f, ⟨by simp, fun h0 => ?_⟩, (fun h => by cases h), by omega⟩
    obtain ⟨b, off, spot⟩ := a
    have hspot : spot = none := by
      have := World.cell?_spot (hf 0 (by omega)).1
      simpa [Addr.add] using this
    subst hspot
    refine ⟨b, off, rfl, fun i hi => ?_⟩
    have e : ((List.range len).map f).getD i N0 = f i := by simp [List.getD, hi]
    rw [e]
    have := hf i hi
    simpa [Addr.add_lit, Nat.add_assoc] using this

end Go.Proofs.Qxb6627411a
