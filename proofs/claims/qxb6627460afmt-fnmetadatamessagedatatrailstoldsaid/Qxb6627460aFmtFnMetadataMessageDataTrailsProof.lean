/-
  The statement Rows.FnMetadataMessageDataTrailsToldSaid: the told and tied card; the walk from Qxb6627460aFmtLawB; the tie is the given one.
-/
import Derived.Test.Qxb6627460aFmtRows
import Derived.Test.Qxb6627460aFmtCards
import Derived.Test.Qxb6627460aFmtTie
import Derived.Test.Qxb6627460aFmtLawB
import Derived.ProofKit
import Derived.OpenShut
import Derived.Stop.JoinedAt
import Derived.Stop.JoinedTold
import Derived.Stop.LaidErr
import Derived.Lib.LaidTab
import Derived.SevenTiedAt
namespace Go.Proofs.Qxb6627460aFmt.fnMetadataMessageDataTrails
open Go.ChangeShapes Go.WideShapes Go.ChangeAt Go.RowKit Go.Kit
open Go.Stop
set_option linter.unusedVariables false
set_option linter.unusedSimpArgs false

theorem own : ownKnob Tryf.prog.godebug = none := by kernel_rfl
theorem laidOut : laidOutB Tryf.prog = true := by kernel_rfl
theorem stops : Tryf.pinned.checked.prog.stops = ["fmt.errorf"] := by kernel_rfl
theorem stopKnobs : Tryf.pinned.checked.prog.stopKnobs = [] := by kernel_rfl
theorem quiet (os : Os) : Stop.quiet Tryf.pinned.checked.prog os := by
  intro k hk
  rw [stopKnobs] at hk
  cases hk

/-! ### The shown start: the three tables lie as the row lists them -/
def cellsOf : DataW Unit → Array Value
  | .agg l => (l.map fun
    | .lit (.int k z) => Value.int k z
    | _ => .bool false).toArray
  | _ => #[]
def putIn (h : Array Obj) (g : Nat) (cs : Array Value) : Array Obj := h.modify g fun
  | .cells _ t frozen => .cells cs t frozen
  | o => o
def tabled (w : World) : World := { w with heap := putIn (putIn (putIn w.heap 0 (cellsOf Rows.laid_internal_strconv_uint64pow10)) 1 (cellsOf Rows.laid_math_bits_deBruijn32tab)) 2 (cellsOf Rows.laid_math_bits_deBruijn64tab) }
set_option maxRecDepth 100000 in
theorem laid_met (os : Os) (args : Array Value) : laidMet Tryf.prog Rows.fnMetadataMessageDataTrailsRow.laid ((tabled (World.holding Tryf.prog os ⟨#[], #[], []⟩)).forCall (fun _ _ => 0) ⟨#[], args, []⟩).memory :=
  laidMet_of_run' 8 (by kernel_rfl) (by kernel_rfl)

/-! ### The arguments -/
theorem i64_of {x : Int} (h : (Lit.int .i64 x).wf = true) : I64 x := by
  have e1 : IntKind.i64.min = -9223372036854775808 := rfl
  have e2 : IntKind.i64.max = 9223372036854775807 := rfl
  simp [Lit.wf, e1, e2] at h
  exact ⟨by omega, by omega⟩
theorem u8_of {x : Int} (h : (Lit.int .u8 x).wf = true) : 0 ≤ x ∧ x ≤ 255 := by
  have e1 : IntKind.u8.min = 0 := rfl
  have e2 : IntKind.u8.max = 255 := rfl
  simp [Lit.wf, e1, e2] at h
  exact ⟨by omega, by omega⟩

/-- What is known of the data: its elements; nil has no room; the length's bound. -/
theorem open_data {H : Type} {enc : TypeId × Value → H} {W : World} {a : Option Addr} {len cap : Nat} {d : DataW H} {p : List MemPlace}
    (h : DataW.Trod enc Tryf.prog W 0 (fun _ => true) true 22 (.slice a len cap) d p) : ∃ zs, (len ≤ 1048576 → Row W a len zs) ∧ (a = none → len = 0 ∧ cap = 0) ∧ len ≤ maxLen := by
  obtain ⟨fuel, hf⟩ := h
  rcases open_ints Tryf.underlying22 Tryf.underlying5 (by kernel_rfl) hf with ⟨hcs, _⟩ | ⟨x, l, c, zs, hcs, _, hl, hm, hz, _, hcell, hwz⟩
  · simp [Value.cells] at hcs
    obtain ⟨rfl, rfl, rfl⟩ := hcs
    exact ⟨[], fun _ => ⟨rfl, by omega, fun h => absurd rfl h⟩, fun _ => ⟨rfl, rfl⟩, by unfold maxLen; omega⟩
  · simp [Value.cells] at hcs
    obtain ⟨rfl, rfl, rfl⟩ := hcs
    replace hz : zs.length = cap := by simpa using hz
    refine ⟨zs.take len, fun hb => ⟨by simp; omega, by omega, fun h0 => ?_⟩, (fun h => by cases h), by omega⟩
    obtain ⟨b, off, spot⟩ := x
    have hspot : spot = none := by simpa [Addr.add] using World.cell?_spot (hcell 0 (by omega))
    subst hspot
    refine ⟨b, off, rfl, fun j hj => ?_⟩
    have := hcell j (by omega)
    rw [Addr.add_lit] at this
    rw [this]
    simp [List.getD, hj]

theorem pow_data : (Rows.laid_internal_strconv_uint64pow10 : DataW Unit) = Lib.tabData .u64 Lib.pow10Tab := by kernel_rfl
theorem g0 : Tryf.prog.globalNamed powName = some 0 := by kernel_rfl
theorem g0t : (Tryf.prog.globals[0]?).map (·.type) = some 92 := by kernel_rfl
theorem u92 : Tryf.prog.underlying 92 = some (.array 20 41) := by kernel_rfl
theorem u41 : Tryf.prog.underlying 41 = some (.int .u64) := by kernel_rfl
theorem tab_of {W : World} (h : laidMet Tryf.prog Rows.fnMetadataMessageDataTrailsRow.laid W) : Tab W.heap.size W := by
  have h2 : laidMet Tryf.prog ((powName, Lib.tabData .u64 Lib.pow10Tab) :: []) W := by
    rw [← pow_data]
    exact h.tail.tail
  exact Lib.tabBelow_of_tabIs (Lib.tabIs_of_head g0 g0t u92 u41 (by kernel_rfl) (by kernel_rfl) h2)

set_option maxRecDepth 100000 in
theorem lifted (os : Os) (started : os.Started) (H : Type) (enc : TypeId × Value → H) :
    ReturnsInTold none {} Tryf.checked os 4 .any Input.okWide ((OpenSpec.ofChange Rows.fnMetadataMessageDataTrailsSpec).preRow enc Tryf.prog Tryf.f4 Rows.fnMetadataMessageDataTrailsRow.domain false Rows.fnMetadataMessageDataTrailsRow.laid) (fun F => ((OpenSpec.ofChange Rows.fnMetadataMessageDataTrailsSpec).at F).post enc Tryf.prog Tryf.f4 false true false false) (aloneAtReturn Tryf.prog) nothingAlways := by
  refine returnsInTold_of_row (C := Tryf.checked) (s := OpenSpec.ofChange Rows.fnMetadataMessageDataTrailsSpec) (by kernel_rfl) own started (by kernel_rfl) Tryf.func4
    (OpenSpec.witness_stopped_at (enc := enc) (C := Tryf.checked) false (tabled (World.holding Tryf.prog os ⟨#[], #[], []⟩)) #[.int .i64 0, .int .i64 0, .int .i64 0, .slice none 0 0, .int .u8 0] rfl (by kernel_rfl) (by kernel_rfl) (by kernel_rfl)
      (OpenSpec.preRow_of_B rfl 8 (by kernel_rfl) (by kernel_rfl) (laid_met os _))) ?_
  intro F W base args ds gs before _ _ hval0 hW _ _ _ hL _
  have hval : ∀ (j : Nat) t v, Tryf.f4.params[j]? = some t → args[j]? = some v → Value.okWide Tryf.prog W .any base t v := hval0
  have hW' := hW
  obtain ⟨p, q, hA0, hV, rfl, hfz, hnd⟩ := hW
  have hA : DataW.TrodAll enc Tryf.prog W 0 (fun _ => true) true Tryf.f4.params.toList args.toList ds p := hA0
  rw [Tryf.params4] at hA hval
  obtain ⟨v0, vs0, d0, ds0, p0, q0, hargs, rfl, rfl, h0, r0⟩ := trodAll_cons hA
  obtain ⟨v1, vs1, d1, ds1, p1, q1, rfl, rfl, rfl, h1, r1⟩ := trodAll_cons r0
  obtain ⟨v2, vs2, d2, ds2, p2, q2, rfl, rfl, rfl, h2, r2⟩ := trodAll_cons r1
  obtain ⟨v3, vs3, d3, ds3, p3, q3, rfl, rfl, rfl, h3, r3⟩ := trodAll_cons r2
  obtain ⟨v4, vs4, d4, ds4, p4, q4, rfl, rfl, rfl, h4, r4⟩ := trodAll_cons r3
  obtain ⟨rfl, rfl, rfl⟩ := trodAll_nil r4
  obtain rfl : args = #[v0, v1, v2, v3, v4] := by cases args; simp_all
  obtain ⟨rfl, rfl⟩ := trodVars_none hV
  obtain ⟨t, rfl, rfl, rfl, wt⟩ := open_int Tryf.underlying2 (hval 0 2 v0 rfl rfl) h0
  obtain ⟨p, rfl, rfl, rfl, wp⟩ := open_int Tryf.underlying2 (hval 1 2 v1 rfl rfl) h1
  obtain ⟨s, rfl, rfl, rfl, ws⟩ := open_int Tryf.underlying2 (hval 2 2 v2 rfl rfl) h2
  obtain ⟨a, len, cap, rfl⟩ := okWide_slice Tryf.underlying22 (hval 3 22 v3 rfl rfl)
  obtain ⟨id, rfl, rfl, rfl, wid⟩ := open_int Tryf.underlying5 (hval 4 5 v4 rfl rfl) h4
  have k3 := h3
  have lt3 : ∀ x ∈ p3, x.block < W.heap.size := by obtain ⟨m, hm⟩ := k3; exact DataW.trod_lt m _ _ _ hm
  obtain ⟨zs, hrow, hnil, hmax⟩ := open_data h3
  clear hA0 hval0
  refine (law4 t p s id a len cap zs W (i64_of wt) (i64_of wp) (i64_of ws) (u8_of wid) (tab_of hL) hrow hnil hmax).mono fun e W' ⟨he, bel⟩ => ?_
  subst he
  exact ⟨_, rfl, _, _, _, [], _, [], hW', trodAll_mk1 (shut_bool Tryf.underlying4 _), (trodAll_cons_mk (shut_int Tryf.underlying2 wt) (trodAll_cons_mk (shut_int Tryf.underlying2 wp) (trodAll_cons_mk (shut_int Tryf.underlying2 ws) (trodAll_cons_mk (Below.trod laidOut (by kernel_rfl) (of_decide_eq_true (by kernel_rfl)) k3 bel lt3) (trodAll_cons_mk (shut_int Tryf.underlying5 wid) trodAll_mk0))))), rfl, bel.frame _, fun h => by cases h⟩

/-- THE STATEMENT. -/
theorem proved : Rows.FnMetadataMessageDataTrailsToldSaid :=
  Claim7.holds_of_told_tied_any_at .later 4 Tryf.f4 "fmt.errorf" [] [] _ _ _ _ _ (by kernel_rfl) rfl rfl rfl laidOut (by kernel_rfl) rfl ⟨rfl, rfl, rfl, rfl, rfl, rfl, rfl⟩ rfl rfl (by kernel_rfl) (by kernel_rfl) Tryf.func4 (by kernel_rfl)
    (of_decide_eq_true (by kernel_rfl)) (by unfold Func.isWrapper; first | (rw [if_pos (by decide +kernel)]; kernel_rfl) | (rw [if_neg (by decide +kernel)]; exact ⟨rfl, rfl⟩)) stops.symm rfl stopKnobs.symm (by kernel_rfl)
    (by kernel_rfl) (by kernel_rfl) (by kernel_rfl) (by kernel_rfl) (by kernel_rfl) (by kernel_rfl) (by kernel_rfl) (by kernel_rfl) (by kernel_rfl) rfl (by kernel_rfl) rfl rfl
    rfl rfl
    rfl (by kernel_rfl) (by kernel_rfl) (by kernel_rfl) (by decide) (by kernel_rfl) fnMetadataMessageDataTrails_row_tie
    (OpenClaim.moreEntering_of (by kernel_rfl) (by kernel_rfl) (by kernel_rfl) (by kernel_rfl) (by kernel_rfl) (by kernel_rfl) (by kernel_rfl) (by kernel_rfl) (by kernel_rfl) (by kernel_rfl))
    ⟨_, WideRow.started_initial, quiet _⟩
    (fun os started _ H enc _ => lifted os started H enc)

#print axioms proved
end Go.Proofs.Qxb6627460aFmt.fnMetadataMessageDataTrails
