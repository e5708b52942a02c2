/-
  THE SHARED WALKS: toNode, overRun, Chunks, chunksOf.
-/
import Derived.Test.Qxb6627411aRows
import Derived.Test.Qxb6627411aPlain
import Derived.Test.Qxb6627411aLaws
import Derived.WalkKit
import Derived.WalkSpells
import Derived.Below
import Derived.OwnWalk
namespace Go.Proofs.Qxb6627411a
open Go.RowKit
set_option linter.unusedSimpArgs false
set_option linter.unusedVariables false

/-- A node as plain data. -/
structure Nd where
  k : Int
  a : Option Addr
  l : Nat
  c : Nat
  o : Int
  s : Int
  e : Int

/-- What a node takes in memory: forty cells. -/
def Nd.cells (n : Nd) : List Value :=
  [.int .u8 0, .int .u8 0, .int .u8 0, .int .u8 0, .int .u8 0, .int .u8 0, .int .u8 0, .int .u8 0, .int .u8 0, .int .u8 0, .int .u8 0, .int .u8 0, .int .u8 0, .int .u8 0, .int .u8 0, .int .u8 0, .int .u32 0,
   .int .u8 0, .int .u8 0, .int .u8 0, .int .u8 0, .int .u8 0, .int .u8 0, .int .u8 0, .int .u8 0, .int .u8 0, .int .u8 0, .int .u8 0, .int .u8 0, .int .u8 0, .int .u8 0, .int .u8 0, .int .u8 0, .int .u32 0,
   .int .i64 n.k, .slice n.a n.l n.c, .int .i64 n.o, .int .i64 n.s, .int .i64 n.e, .int .i64 0]

theorem ret_bool {a b : Bool} (h : a = b) : Ending.returned (.bool a) = .returned (.bool b) := by rw [h]
theorem ret_int {k : IntKind} {a b : Int} (h : a = b) : Ending.returned (.int k a) = .returned (.int k b) := by rw [h]

def Nd.arr (n : Nd) : Array Value := n.cells.toArray
/-- The zero node's cells. -/
def Zn : Array Value := Nd.arr ⟨0, none, 0, 0, 0, 0, 0⟩
theorem Nd.arr_size (n : Nd) : n.arr.size = 40 := rfl
theorem Nd.arr_one (n : Nd) : n.arr.all (·.oneCell') = true := by kernel_rfl
theorem Zn_size : Zn.size = 40 := rfl
theorem Try.info53 : (Try.prog.info? 53).map (fun i => (i.zero, i.size, i.bytes)) = some (some (.agg Zn), 40, 104) := by kernel_rfl
theorem Try.size53 : (Try.prog.info? 53).map (·.size) = some 40 := by kernel_rfl

theorem run_zero53 (w : World) : (zeroValue 53).run Try.prog w = .ok (.agg Zn) w := by
  obtain ⟨i, hi, h0, h1, h2⟩ := info_parts Try.info53
  simp [zeroValue, typeInfo, hi, h0]

theorem run_build53 (k : Int) (a : Option Addr) (l c : Nat) (o s e : Int) (w : World) :
    (Instr.build 53 #[(2, .int .i64 k), (3, .slice a l c), (4, .int .i64 o), (5, .int .i64 s), (6, .int .i64 e)]).run Try.prog w = .ok (.agg (Nd.arr ⟨k, a, l, c, o, s, e⟩)) w := by kernel_rfl

theorem toNode_any (k : Int) (a : Option Addr) (l c : Nat) (o s e : Int) (w : World) :
    Calls Try.prog 13 #[.agg #[.int .i64 k, .slice a l c, .int .i64 o, .int .i64 s, .int .i64 e]] w fun e' w' => e' = .returned (.agg (Nd.arr ⟨k, a, l, c, o, s, e⟩)) ∧ Below w.heap.size w w' := by
  go_enter Try.func13, Try.ntmps13
  go_wp2_with (first
    | (refine wpList_alloc_named rfl 53 rfl Zn run_zero53 ?_)
    | (refine wpList_build_named rfl 53 _ rfl #[(2, .int .i64 k), (3, .slice a l c), (4, .int .i64 o), (5, .int .i64 s), (6, .int .i64 e)] (by simp [Act.eval]) (Nd.arr ⟨k, a, l, c, o, s, e⟩) (run_build53 k a l c o s e) ?_)
    | (refine wpList_store_last rfl 53 (.tmp 2) (.tmp 13) rfl (w.heap.size + 1) Zn (Nd.arr ⟨k, a, l, c, o, s, e⟩) rfl rfl (by simp) Try.size53 rfl (Nd.arr_one _) ?_))
  refine bodyPost_ret (results_cell_row Try.results13 _ _ (w.heap.size + 1) 53 (Nd.arr ⟨k, a, l, c, o, s, e⟩) (0, 0) _ rfl (by simpa using heap_alloc_last (w.alloc (.cells #[.int .i64 k, .slice a l c, .int .i64 o, .int .i64 s, .int .i64 e] 26)) _) Try.underlying53 rfl Try.size53) rfl ?_
  exact ⟨rfl, ((Below.refl _ _).alloc (Nat.le_refl _) _).alloc (by simp) _⟩

theorem overRun_any (b off : Nat) (k : Int) (a : Option Addr) (l c : Nat) (w : World) (h1 : w.cell? ⟨b, off + 34, none⟩ = some (.int .i64 k)) (h2 : w.cell? ⟨b, off + 35, none⟩ = some (.slice a l c)) :
    Calls Try.prog 15 #[.pointer (some ⟨b, off, none⟩)] w fun e w' => e = .returned (.bool (k == 1 && l == 0)) ∧ w = w' := by
  go_enter Try.func15, Try.ntmps15
  go_wp2
  all_goals (go_ret; exact ⟨ret_bool (by simp [*]; try (cases l <;> rfl)), rfl⟩)

/-- What the count looks at. -/
def pv (n : Nd) : Bool × Int := (n.k == 1 && n.l == 0, n.e)
def N0 : Nd := ⟨0, none, 0, 0, 0, 0, 0⟩

/-- What is known of a slice of nodes that the call has made. -/
def NRow (w : World) (ao : Option Addr) (ns : List Nd) : Prop :=
  ns.length ≤ 3000000 ∧ (ns ≠ [] → ∃ g, ao = some ⟨g, 0, none⟩ ∧ ∀ i, i < ns.length →
    w.cell? ⟨g, i * 40 + 34, none⟩ = some (.int .i64 (ns.getD i N0).k) ∧ w.cell? ⟨g, i * 40 + 35, none⟩ = some (.slice (ns.getD i N0).a (ns.getD i N0).l (ns.getD i N0).c) ∧ w.cell? ⟨g, i * 40 + 38, none⟩ = some (.int .i64 (ns.getD i N0).e))

theorem pv_at (ns : List Nd) (i : Nat) (h : i < ns.length) : (ns.map pv)[i]?.getD (false, 0) = pv (ns.getD i N0) := by
  simp [List.getD, h]

set_option maxHeartbeats 800000 in
theorem chunks_any (B : Nat) (ao : Option Addr) (cap len : Nat) (ns : List Nd) (w : World) (hlen : ns.length = len) (hB : w.cell? ⟨B, 104, none⟩ = some (.slice ao len cap)) (hN : NRow w ao ns) (hok : Pl.Ok (ns.map pv)) :
    Calls Try.prog 12 #[.pointer (some ⟨B, 0, none⟩)] w fun e w' => e = .returned (.int .i64 (Pl.C (ns.map pv) 1)) ∧ w = w' := by
  obtain ⟨hm, hc⟩ := hN
  have hml : (ns.map pv).length = len := by simp [hlen]
  have HO : Hid (Pl.Ok (ns.map pv)) := hok
  have HL : Hid ((ns.map pv).length = len) := hml
  have HL2 : Hid (ns.length = len) := hlen
  rw [hlen] at hm
  have HC : Hid (ns ≠ [] → ∃ g, ao = some ⟨g, 0, none⟩ ∧ ∀ i, i < len → w.cell? ⟨g, i * 40 + 34, none⟩ = some (.int .i64 (ns.getD i N0).k) ∧ w.cell? ⟨g, i * 40 + 35, none⟩ = some (.slice (ns.getD i N0).a (ns.getD i N0).l (ns.getD i N0).c) ∧ w.cell? ⟨g, i * 40 + 38, none⟩ = some (.int .i64 (ns.getD i N0).e)) := by rw [← hlen]; exact hc
  clear hok hml hlen hc
  go_enter Try.func12, Try.ntmps12
  go_wp2
  go_loop [3, 4] (fun n i => ∃ q k : Nat, n = .int .i64 q ∧ i = .int .i64 k ∧ 1 ≤ k ∧ (k ≤ len ∨ k = 1) ∧ q + 1 ≤ k ∧ Hid (q + Pl.C (ns.map pv) k = Pl.C (ns.map pv) 1)) (fun _ i => len - (intOf i).toNat)
  case atStart => exact ⟨0, 1, rfl, rfl, by omega, by omega, by omega, by show _ = _; omega⟩
  case round =>
    obtain ⟨q, k, rfl, rfl, hk1, hk2, hq, hC⟩ := hrel
    by_cases hlt : k < len
    · obtain ⟨g, rfl, hcell⟩ := HC.out (by intro h; have := HL2.out; rw [h] at this; simp at this; omega)
      obtain ⟨c1, c2, c3⟩ := hcell k hlt
      have hp := pv_at ns k (by rw [HL2.out]; exact hlt)
      obtain ⟨nd, hnd⟩ : ∃ nd, ns.getD k N0 = nd := ⟨_, rfl⟩
      rw [hnd] at c1 c2 c3 hp
      have ho := HO.out k hk1 (by rw [HL.out]; exact hlt)
      rw [hp, HL.out] at ho
      have HP : Hid ((ns.map pv)[k]?.getD (false, 0) = pv nd) := hp
      have ho1 : (k : Int) < nd.e := ho.1
      have ho2 : nd.e ≤ len := ho.2
      have HR := fun h => Pl.C_run (ns.map pv) HO.out k hk1 (by rw [HL.out]; exact hlt) h
      have HN := fun h => Pl.C_one (ns.map pv) HO.out k hk1 (by rw [HL.out]; exact hlt) h
      rw [HP.out] at HR HN
      have HR' : Hid ((pv nd).1 = true → Pl.C (ns.map pv) k = Pl.C (ns.map pv) (k + 1)) := HR
      have HN' : Hid ((pv nd).1 = false → Pl.C (ns.map pv) k = Pl.C (ns.map pv) nd.e.toNat + 1) := HN
      clear hnd hp ho HR HN hcell HP
      obtain ⟨kk, aa, ll, cc, oo, ss, ee⟩ := nd
      simp only [pv] at c1 c2 c3 ho1 ho2
      have cO := overRun_any g (k * 40) kk aa ll cc w c1 c2
      by_cases hr : (kk == 1 && ll == 0) = true
      · rw [hr] at cO
        have H2 : Hid (q + Pl.C (ns.map pv) (k + 1) = Pl.C (ns.map pv) 1) := by rw [← HR'.out hr]; exact hC
        clear hr HR' HN' hC HO HC
        go_wp2_with (go_at_call 15; refine cO.mono ?_; rintro e w' ⟨rfl, rfl⟩)
        go_round
        case rel => exact ⟨q, k + 1, rfl, by go_num, by omega, by omega, by omega, H2⟩
        case measure => simp [intOf]; omega
      · have hr' : (kk == 1 && ll == 0) = false := by simpa using hr
        rw [hr'] at cO
        have H2 : Hid ((q + 1) + Pl.C (ns.map pv) ee.toNat = Pl.C (ns.map pv) 1) := by
          have h1 := hC.out
          rw [HN'.out hr'] at h1
          show _ = _
          simp only [] at h1
          omega
        clear hr hr' HR' HN' hC HO HC
        go_wp2_with (go_at_call 15; refine cO.mono ?_; rintro e w' ⟨rfl, rfl⟩)
        go_round
        case rel => exact ⟨q + 1, ee.toNat, by go_num, by go_num, by omega, by omega, by omega, H2⟩
        case measure => simp [intOf]; omega
    · have H2 : Hid (q = Pl.C (ns.map pv) 1) := by
        have h1 := hC.out
        rw [Pl.C_out _ k (by rw [HL.out]; omega)] at h1
        show _ = _
        omega
      clear hC HO HC
      go_wp2_with fail
      go_ret
      exact ⟨ret_int (by rw [← H2.out]), rfl⟩

end Go.Proofs.Qxb6627411a
