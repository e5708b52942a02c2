/-
  MetadataMessage.Message (6).
-/
import Derived.Test.Qxb6627460aFmtMsg
namespace Go.Proofs.Qxb6627460aFmt
open Go.RowKit
set_option linter.unusedSimpArgs false
set_option linter.unusedVariables false

/-- A guard: the next operation is this one. -/
theorem op_is {P : Program} {ops : Array Oper} {rest : List Oper} {o : Oper} {a : Act} {w : World} {Q : Exit → Act → World → Prop} (p : Op) (ho : o.op = p) (h : wpList P ops Q (o :: rest) a w) : wpList P ops Q (o :: rest) a w := h

/-- An entry of a map literal. -/
theorem wpList_insert_own {H : Type} {P : Program} (w : World) {ops : Array Oper} {rest : List Oper} {o : Oper} {a : Act} {Q : Exit → Act → World → Prop}
    (hg : o.guard = none) (m x v : Operand) (t : TypeId) (hop : o.op = Op.insert t m x v)
    (k e : TypeId) (K : Maps.Keyed P k) (ht : P.underlying t = some (.map k e)) (R : Value → Option (DataW H × List MemPlace)) (b n : Nat) (D : DataW H)
    (hm : a.eval m = .map (some b)) (hown : w.ownsMap P k R b n D) (hn : n < maxLen) (key val : Value) (kl : Lit) (hx : a.eval x = key) (hv : a.eval v = val) (hkey : keyOf P k key = some kl)
    (d : DataW H) (ps : List MemPlace) (hval : R val = some (d, ps))
    (hK : ∀ w', w'.ownsMap P k R b (n + 1) (D.put kl d) → w.grownBy w' (some b) → wpList P ops Q rest (a.put o.dst undef) w') :
    wpList P ops Q (o :: rest) a w := by
  refine wpList_plain hg fun K' hK' => ?_
  obtain ⟨w', hrun, r1, r2⟩ := hown.update K ht hn hkey hval
  unfold Oper.wp
  simp [execOp, hop, hm, hx, hv, hrun, Result.andThen]
  exact hK' _ _ (hK w' r1 r2)

theorem key1 : keyOf Tryf.prog 9 (.string kMsg) = some (.string kMsg.data.toList) := WideMaps.keyOf_string_mk Tryf.underlying9 (by unfold maxLen; decide)
theorem key2 : keyOf Tryf.prog 9 (.string kPiece) = some (.string kPiece.data.toList) := WideMaps.keyOf_string_mk Tryf.underlying9 (by unfold maxLen; decide)
theorem key3 : keyOf Tryf.prog 9 (.string kTotal) = some (.string kTotal.data.toList) := WideMaps.keyOf_string_mk Tryf.underlying9 (by unfold maxLen; decide)

/-- The two boxes that Message lays: its receiver and its result. -/
structure Boxes (N : Nat) (t p s : Int) (da : Option Addr) (dl dc : Nat) (w : World) : Prop where
  c0 : w.cell? ⟨N, 0, none⟩ = some (.int .i64 t)
  c1 : w.cell? ⟨N, 1, none⟩ = some (.int .i64 p)
  c2 : w.cell? ⟨N, 2, none⟩ = some (.int .i64 s)
  c3 : w.cell? ⟨N, 3, none⟩ = some (.slice da dl dc)
  r : w.heap[N + 1]? = some (.cells #[.int .u8 0, .slice none 0 0] 28 (0, 0))
theorem Boxes.below {N B : Nat} {t p s : Int} {da : Option Addr} {dl dc : Nat} {w w' : World} (h : Boxes N t p s da dl dc w) (hb : Below B w w') (hN : N + 1 < B) : Boxes N t p s da dl dc w' :=
  ⟨(hb.cell (p := ⟨N, 0, none⟩) (by simp; omega)).trans h.c0, (hb.cell (p := ⟨N, 1, none⟩) (by simp; omega)).trans h.c1, (hb.cell (p := ⟨N, 2, none⟩) (by simp; omega)).trans h.c2, (hb.cell (p := ⟨N, 3, none⟩) (by simp; omega)).trans h.c3, (hb.block _ hN).trans h.r⟩
theorem Boxes.made (w : World) (t p s : Int) (da : Option Addr) (dl dc : Nat) : Boxes w.heap.size t p s da dl dc ((w.alloc (.cells #[.int .i64 t, .int .i64 p, .int .i64 s, .slice da dl dc] 25)).alloc (.cells #[.int .u8 0, .slice none 0 0] 28)) := by
  have h0 := heap_alloc2_old w (.cells #[.int .i64 t, .int .i64 p, .int .i64 s, .slice da dl dc] 25) (.cells #[.int .u8 0, .slice none 0 0] 28)
  refine ⟨?_, ?_, ?_, ?_, heap_alloc2_new w _ _⟩
  all_goals (rw [cell_of_row _ _ _ _ 25 (0, 0) h0]; rfl)

theorem Tab.up {B B' : Nat} {w w' : World} (h : Tab B w) (hb : Below B w w') (hB : B ≤ B') : Tab B' w' := fun w2 h2 => h w2 (hb.trans (h2.mono hB))

theorem made_map (w : World) (A B : Obj) : (((w.alloc A).alloc B).alloc (.map #[] 0)).ownsMap Tryf.prog 9 Rd (w.heap.size + 2) 0 (.map []) := by
  have := World.ownsMap_made ((w.alloc A).alloc B) Tryf.prog 9 Rd
  simpa using this

/-- The end of Message: the result's box is filled. -/
theorem sent_fin (w W0 w4 : World) (N : Nat) (zs : List Int) (a : Option Addr) (c : Nat) (u0 u1 : Value) (hN : N = w.heap.size) (h0 : Below w.heap.size w W0) (h4 : Below w.heap.size W0 w4) (hrow : Row w4 a zs.length zs) (hblk : ∀ x, a = some x → N + 1 < x.block) :
    Sent zs w (.returned (.agg #[.int .u8 20, .slice a zs.length c])) ((w4.setCell ⟨N + 1, 0, none⟩ u0).setCell ⟨N + 1, 1, none⟩ u1) := by
  subst hN
  refine ⟨a, c, rfl, ?_, fun x hx => by have := hblk x hx; omega, ((h0.trans h4).setCell (p := ⟨w.heap.size + 1, 0, none⟩) (by simp) _).setCell (p := ⟨w.heap.size + 1, 1, none⟩) (by simp) _⟩
  exact (hrow.setCell ⟨w.heap.size + 1, 0, none⟩ (fun x hx => by have := hblk x hx; simp; omega) _).setCell ⟨w.heap.size + 1, 1, none⟩ (fun x hx => by have := hblk x hx; simp; omega) _

set_option maxRecDepth 100000 in
set_option maxHeartbeats 1600000 in
theorem message_no (t p s : Int) (da : Option Addr) (dl dc : Nat) (id : Int) (w : World) (ht : I64 t) (hp : I64 p) (hs : I64 s) (htab : Tab w.heap.size w) (hne : (t == 1) = false) :
    Calls Tryf.prog 6 #[.agg #[.int .i64 t, .int .i64 p, .int .i64 s, .slice da dl dc], .int .u8 id] w (Sent (id :: toI (encD (ps2 t p))) w) := by
  have hmm := @run_makeMap Tryf.prog
  have HT : Hid (Tab w.heap.size w) := htab
  clear htab
  have hbx := Boxes.made w t p s da dl dc
  have hW0 : Below w.heap.size w ((w.alloc (.cells #[.int .i64 t, .int .i64 p, .int .i64 s, .slice da dl dc] 25)).alloc (.cells #[.int .u8 0, .slice none 0 0] 28)) := ((Below.refl _ _).alloc (Nat.le_refl _) _).alloc (by simp) _
  go_enter Tryf.func6, Tryf.ntmps6
  go_wp2_with (first
    | (refine op_is (.insert 32 (.tmp 8) (.const (.string ⟨#[109, 115, 103, 95, 116, 121, 112, 101]⟩)) (.tmp 11)) rfl ?_; refine wpList_insert_own _ rfl _ _ _ 32 rfl 9 20 keyed9 Tryf.underlying32 Rd (w.heap.size + 2) 0 (.map []) rfl (made_map _ _ _) (by unfold maxLen; omega) _ _ _ rfl rfl key1 (.lit (.int .i64 t)) [] rfl ?_)
    | fail)
  intro w1 hown1 hg1
  obtain ⟨W0, hW⟩ : ∃ W0, ((w.alloc (.cells #[.int .i64 t, .int .i64 p, .int .i64 s, .slice da dl dc] 25)).alloc (.cells #[.int .u8 0, .slice none 0 0] 28)) = W0 := ⟨_, rfl⟩
  have hWs : W0.heap.size = w.heap.size + 2 := by rw [← hW]; simp
  have HWS : Hid (W0.heap.size = w.heap.size + 2) := hWs
  rw [hW] at hbx hW0 hg1
  have hB1 : Below (w.heap.size + 2) W0 w1 := ((Below.refl _ _).alloc (by omega) _).grown hg1 (by simp; omega) (fun k hk => by cases hk; omega)
  obtain ⟨e0, e1, e2, e3, er⟩ := hbx.below hB1 (by omega)
  have hs1 := hB1.size
  have hlt1 : w.heap.size < w1.heap.size := by omega
  clear hWs hW hg1
  go_wp2_with (first
    | (refine op_is (.insert 32 (.tmp 8) (.const (.string ⟨#[112, 105, 101, 99, 101]⟩)) (.tmp 14)) rfl ?_; refine wpList_insert_own _ rfl _ _ _ 32 rfl 9 20 keyed9 Tryf.underlying32 Rd (w.heap.size + 2) 1 _ rfl hown1 (by unfold maxLen; omega) _ _ _ rfl rfl key2 (.lit (.int .i64 p)) [] rfl ?_)
    | fail)
  intro w2 hown2 hg2
  have hB2 : Below (w.heap.size + 2) W0 w2 := hB1.grown hg2 (by have := HWS.out; omega) (fun k hk => by cases hk; omega)
  have hm2 : w2.ownsMap Tryf.prog 9 Rd (w.heap.size + 2) 2 (D2 t p) := hown2
  have hs2 := hB2.size
  have hlt2 : w.heap.size < w2.heap.size := by have := HWS.out; omega
  clear e0 e1 e2 e3 er hg2 hown1 hown2 hlt1 hB1 hs1
  obtain ⟨e0, e1, e2, e3, er⟩ := hbx.below hB2 (by omega)
  have hb2 : Below w.heap.size w w2 := hW0.trans (hB2.mono (by omega))
  have c10 := encode2 (w.heap.size + 2) 2 t p ht hp w2 (HT.out.up hb2 hb2.size) hm2
  clear hm2
  go_wp2_with fail
  refine c10.mono ?_
  rintro e w3 ⟨v3, rfl, hown3, hK3⟩
  clear c10
  have hB3 : Below (w.heap.size + 2) W0 w3 := hB2.trans (hK3.below.mono (by have := HWS.out; omega))
  have hs3 := hB3.size
  have hlt3 : w.heap.size < w3.heap.size := by have := HWS.out; omega
  clear e0 e1 e2 e3 er hlt2
  obtain ⟨e0, e1, e2, e3, er⟩ := hbx.below hB3 (by omega)
  have hle := len2 ht hp
  have hl : (encD (ps2 t p)).length = (toI (encD (ps2 t p))).length := by simp [toI]
  have hl2 : (toI (encD (ps2 t p))).length ≤ 20000 := by simp [toI, encD]; omega
  have hl0 : (toI (encD (ps2 t p))).length ≠ 0 := by simp [toI, encD]
  obtain ⟨zs, hzs⟩ : ∃ zs, toI (encD (ps2 t p)) = zs := ⟨_, rfl⟩
  have hown4 : w3.ownsRow w2.heap.size 5 1 v3 zs.length (zs.map (Value.int .u8)) := by
    rw [← hzs, toI_cells, ← hl]; simpa using hown3
  rw [hzs] at hl2 hl0
  obtain ⟨ao, co, hv3, hrow3, hblk3⟩ := Row.of_own hown4 (by omega)
  obtain ⟨x, rfl⟩ : ∃ x, ao = some x := by
    obtain ⟨b, off, e, _⟩ := hrow3.2.2 hl0
    exact ⟨_, e⟩
  rw [hv3]
  have HZ : Hid (toI (encD (ps2 t p)) = zs) := hzs
  have c11 := newExt_any id x zs.length co zs w3 hrow3 (by omega)
  clear hown3 hown4 hv3 hzs hl hblk3 hle
  go_wp2_with fail
  refine c11.mono ?_
  rintro e w4 ⟨a4, c4, rfl, hrow4, hblk4, hB4'⟩
  clear c11
  have hB4 : Below (w.heap.size + 2) W0 w4 := hB3.trans (hB4'.mono (by have := HWS.out; omega))
  have hfin := fun u0 u1 => sent_fin w W0 w4 w.heap.size (id :: zs) a4 c4 u0 u1 rfl hW0 (hB4.mono (by omega)) hrow4 (fun y hy => by have h1 := hblk4 y hy; have h2 := HWS.out; omega)
  have HF : Hid (∀ u0 u1, Sent (id :: zs) w (.returned (.agg #[.int .u8 20, .slice a4 (id :: zs).length c4])) ((w4.setCell ⟨w.heap.size + 1, 0, none⟩ u0).setCell ⟨w.heap.size + 1, 1, none⟩ u1)) := hfin
  clear e0 e1 e2 e3 er hfin hblk4 hlt3
  obtain ⟨e0, e1, e2, e3, er⟩ := hbx.below hB4 (by omega)
  have hs4 := hB4.size
  have hlt4 : w.heap.size + 1 < w4.heap.size := by have := HWS.out; omega
  have q0 : w4.cell? ⟨w.heap.size + 1, 0, none⟩ = some (.int .u8 0) := by rw [cell_of_row _ _ _ _ 28 (0, 0) er]; rfl
  have q1 : w4.cell? ⟨w.heap.size + 1, 1, none⟩ = some (.slice none 0 0) := by rw [cell_of_row _ _ _ _ 28 (0, 0) er]; rfl
  have f0 : w4.frozen? ⟨w.heap.size + 1, 0, none⟩ = false := frozen_of_row _ _ _ _ 28 er
  have f1 : w4.frozen? ⟨w.heap.size + 1, 1, none⟩ = false := frozen_of_row _ _ _ _ 28 er
  clear e0 e1 e2 e3 er hbx hrow3 hrow4 hs2 hs3 hs4
  rw [List.length_cons]
  have HF2 := HF.out
  rw [List.length_cons] at HF2
  have HF3 : Hid (∀ u0 u1, Sent (id :: zs) w (.returned (.agg #[.int .u8 20, .slice a4 (zs.length + 1) c4])) ((w4.setCell ⟨w.heap.size + 1, 0, none⟩ u0).setCell ⟨w.heap.size + 1, 1, none⟩ u1)) := HF2
  clear HF2 HF
  go_wp2
  rw [HZ.out]
  exact bodyPost_ret (v := .agg #[.int .u8 20, .slice a4 (zs.length + 1) c4]) (by simp [results, Tryf.results6, go_sem, q0, q1]) rfl (HF3.out _ _)

set_option maxRecDepth 100000 in
set_option maxHeartbeats 1600000 in
theorem message_nil (t p s : Int) (id : Int) (w : World) (ht : I64 t) (hp : I64 p) (hs : I64 s) (htab : Tab w.heap.size w) (hne : (t == 1) = true) :
    Calls Tryf.prog 6 #[.agg #[.int .i64 t, .int .i64 p, .int .i64 s, .slice none 0 0], .int .u8 id] w (Sent (id :: toI (encD (ps3 t p s))) w) := by
  obtain ⟨i0, hi, hz0, hz1, hz2⟩ := info_parts Tryf.info5
  have hmm := @run_makeMap Tryf.prog
  have HT : Hid (Tab w.heap.size w) := htab
  clear htab
  have hbx := Boxes.made w t p s none 0 0
  have hW0 : Below w.heap.size w ((w.alloc (.cells #[.int .i64 t, .int .i64 p, .int .i64 s, .slice none 0 0] 25)).alloc (.cells #[.int .u8 0, .slice none 0 0] 28)) := ((Below.refl _ _).alloc (Nat.le_refl _) _).alloc (by simp) _
  go_enter Tryf.func6, Tryf.ntmps6
  go_wp2_with (first
    | (refine op_is (.insert 32 (.tmp 8) (.const (.string ⟨#[109, 115, 103, 95, 116, 121, 112, 101]⟩)) (.tmp 11)) rfl ?_; refine wpList_insert_own _ rfl _ _ _ 32 rfl 9 20 keyed9 Tryf.underlying32 Rd (w.heap.size + 2) 0 (.map []) rfl (made_map _ _ _) (by unfold maxLen; omega) _ _ _ rfl rfl key1 (.lit (.int .i64 t)) [] rfl ?_)
    | fail)
  intro w1 hown1 hg1
  obtain ⟨W0, hW⟩ : ∃ W0, ((w.alloc (.cells #[.int .i64 t, .int .i64 p, .int .i64 s, .slice none 0 0] 25)).alloc (.cells #[.int .u8 0, .slice none 0 0] 28)) = W0 := ⟨_, rfl⟩
  have hWs : W0.heap.size = w.heap.size + 2 := by rw [← hW]; simp
  have HWS : Hid (W0.heap.size = w.heap.size + 2) := hWs
  rw [hW] at hbx hW0 hg1
  have hB1 : Below (w.heap.size + 2) W0 w1 := ((Below.refl _ _).alloc (by omega) _).grown hg1 (by simp; omega) (fun k hk => by cases hk; omega)
  obtain ⟨e0, e1, e2, e3, er⟩ := hbx.below hB1 (by omega)
  have hs1 := hB1.size
  have hlt1 : w.heap.size < w1.heap.size := by omega
  clear hWs hW hg1
  go_wp2_with (first
    | (refine op_is (.insert 32 (.tmp 8) (.const (.string ⟨#[112, 105, 101, 99, 101]⟩)) (.tmp 14)) rfl ?_; refine wpList_insert_own _ rfl _ _ _ 32 rfl 9 20 keyed9 Tryf.underlying32 Rd (w.heap.size + 2) 1 _ rfl hown1 (by unfold maxLen; omega) _ _ _ rfl rfl key2 (.lit (.int .i64 p)) [] rfl ?_)
    | fail)
  intro w2 hown2 hg2
  have hB2 : Below (w.heap.size + 2) W0 w2 := hB1.grown hg2 (by have := HWS.out; omega) (fun k hk => by cases hk; omega)
  have hm2 : w2.ownsMap Tryf.prog 9 Rd (w.heap.size + 2) 2 (D2 t p) := hown2
  have hs2 := hB2.size
  have hlt2 : w.heap.size < w2.heap.size := by have := HWS.out; omega
  clear e0 e1 e2 e3 er hg2 hown1 hown2 hlt1 hB1 hs1
  obtain ⟨e0, e1, e2, e3, er⟩ := hbx.below hB2 (by omega)
  go_wp2_with (at_mapUpdate; go_must (refine wpList_mapUpdate_own _ rfl _ _ _ 32 rfl 9 20 keyed9 Tryf.underlying32 Rd (w.heap.size + 2) 2 _ rfl hm2 (by unfold maxLen; omega) _ _ _ rfl rfl key3 (.lit (.int .i64 s)) [] rfl ?_))
  intro w5 hown5 hg5
  have hm5 : w5.ownsMap Tryf.prog 9 Rd (w.heap.size + 2) 3 (D3 t p s) := hown5
  have hB5 : Below (w.heap.size + 2) W0 w5 := hB2.grown hg5 (by have := HWS.out; omega) (fun k hk => by cases hk; omega)
  have hs5 := hB5.size
  have hlt5 : w.heap.size < w5.heap.size := by have := HWS.out; omega
  clear e0 e1 e2 e3 er hg5 hm2 hown5 hlt2 hB2 hs2
  obtain ⟨e0, e1, e2, e3, er⟩ := hbx.below hB5 (by omega)
  have hb5 : Below w.heap.size w w5 := hW0.trans (hB5.mono (by omega))
  have c10 := encode3 (w.heap.size + 2) 3 t p s ht hp hs w5 (HT.out.up hb5 hb5.size) hm5
  clear hm5
  go_wp2_with fail
  refine c10.mono ?_
  rintro e w3 ⟨v3, rfl, hown3, hK3⟩
  clear c10
  have hB3 : Below (w.heap.size + 2) W0 w3 := hB5.trans (hK3.below.mono (by have := HWS.out; omega))
  have hs3 := hB3.size
  have hlt3 : w.heap.size < w3.heap.size := by have := HWS.out; omega
  clear e0 e1 e2 e3 er hlt5
  obtain ⟨e0, e1, e2, e3, er⟩ := hbx.below hB3 (by omega)
  have hle := len3 ht hp hs
  have hl : (encD (ps3 t p s)).length = (toI (encD (ps3 t p s))).length := by simp [toI]
  have hl2 : (toI (encD (ps3 t p s))).length ≤ 20000 := by simp [toI, encD]; omega
  have hl0 : (toI (encD (ps3 t p s))).length ≠ 0 := by simp [toI, encD]
  obtain ⟨zs, hzs⟩ : ∃ zs, toI (encD (ps3 t p s)) = zs := ⟨_, rfl⟩
  have hown4 : w3.ownsRow w5.heap.size 5 1 v3 zs.length (zs.map (Value.int .u8)) := by
    rw [← hzs, toI_cells, ← hl]; simpa using hown3
  rw [hzs] at hl2 hl0
  have HZ : Hid (toI (encD (ps3 t p s)) = zs) := hzs
  clear hown3 hzs hl hle
  go_wp2_with (at_builtin; go_must (refine wpList_append_own_none rfl (.tmp 32) (.tmp 34) 22 rfl w5.heap.size 5 i0 1 Tryf.underlying22 hi v3 zs.length _ rfl hown4 rfl ?_))
  obtain ⟨ao, co, hv3, hrow3, hblk3⟩ := Row.of_own hown4 (by omega)
  obtain ⟨x, rfl⟩ : ∃ x, ao = some x := by
    obtain ⟨b, off, e, _⟩ := hrow3.2.2 hl0
    exact ⟨_, e⟩
  rw [hv3]
  have c11 := newExt_any id x zs.length co zs w3 hrow3 (by omega)
  clear hown4 hv3 hblk3
  go_wp2_with fail
  refine c11.mono ?_
  rintro e w4 ⟨a4, c4, rfl, hrow4, hblk4, hB4'⟩
  clear c11
  have hB4 : Below (w.heap.size + 2) W0 w4 := hB3.trans (hB4'.mono (by have := HWS.out; omega))
  have hfin := fun u0 u1 => sent_fin w W0 w4 w.heap.size (id :: zs) a4 c4 u0 u1 rfl hW0 (hB4.mono (by omega)) hrow4 (fun y hy => by have h1 := hblk4 y hy; have h2 := HWS.out; omega)
  have HF : Hid (∀ u0 u1, Sent (id :: zs) w (.returned (.agg #[.int .u8 20, .slice a4 (id :: zs).length c4])) ((w4.setCell ⟨w.heap.size + 1, 0, none⟩ u0).setCell ⟨w.heap.size + 1, 1, none⟩ u1)) := hfin
  clear e0 e1 e2 e3 er hfin hblk4
  obtain ⟨e0, e1, e2, e3, er⟩ := hbx.below hB4 (by omega)
  have hs4 := hB4.size
  have hlt4 : w.heap.size + 1 < w4.heap.size := by have := HWS.out; omega
  have q0 : w4.cell? ⟨w.heap.size + 1, 0, none⟩ = some (.int .u8 0) := by rw [cell_of_row _ _ _ _ 28 (0, 0) er]; rfl
  have q1 : w4.cell? ⟨w.heap.size + 1, 1, none⟩ = some (.slice none 0 0) := by rw [cell_of_row _ _ _ _ 28 (0, 0) er]; rfl
  have f0 : w4.frozen? ⟨w.heap.size + 1, 0, none⟩ = false := frozen_of_row _ _ _ _ 28 er
  have f1 : w4.frozen? ⟨w.heap.size + 1, 1, none⟩ = false := frozen_of_row _ _ _ _ 28 er
  clear e0 e1 e2 e3 er hbx hrow4 hs3 hs4
  rw [List.length_cons]
  have HF2 := HF.out
  rw [List.length_cons] at HF2
  have HF3 : Hid (∀ u0 u1, Sent (id :: zs) w (.returned (.agg #[.int .u8 20, .slice a4 (zs.length + 1) c4])) ((w4.setCell ⟨w.heap.size + 1, 0, none⟩ u0).setCell ⟨w.heap.size + 1, 1, none⟩ u1)) := HF2
  clear HF2 HF
  go_wp2
  rw [HZ.out]
  exact bodyPost_ret (v := .agg #[.int .u8 20, .slice a4 (zs.length + 1) c4]) (by simp [results, Tryf.results6, go_sem, q0, q1]) rfl (HF3.out _ _)

set_option maxRecDepth 100000 in
set_option maxHeartbeats 1600000 in
theorem message_some (t p s : Int) (y : Addr) (dl dc : Nat) (dz : List Int) (id : Int) (w : World) (ht : I64 t) (hp : I64 p) (hs : I64 s) (htab : Tab w.heap.size w) (hne : (t == 1) = true) (hdr : Row w (some y) dl dz) (hdl : dl ≤ 1048576) :
    Calls Tryf.prog 6 #[.agg #[.int .i64 t, .int .i64 p, .int .i64 s, .slice (some y) dl dc], .int .u8 id] w (Sent (id :: (toI (encD (ps3 t p s)) ++ dz)) w) := by
  obtain ⟨i0, hi, hz0, hz1, hz2⟩ := info_parts Tryf.info5
  have HD : Hid (Row w (some y) dl dz) := hdr
  have hdz : dz.length = dl := hdr.1
  clear hdr
  have hmm := @run_makeMap Tryf.prog
  have HT : Hid (Tab w.heap.size w) := htab
  clear htab
  have hbx := Boxes.made w t p s (some y) dl dc
  have hW0 : Below w.heap.size w ((w.alloc (.cells #[.int .i64 t, .int .i64 p, .int .i64 s, .slice (some y) dl dc] 25)).alloc (.cells #[.int .u8 0, .slice none 0 0] 28)) := ((Below.refl _ _).alloc (Nat.le_refl _) _).alloc (by simp) _
  go_enter Tryf.func6, Tryf.ntmps6
  go_wp2_with (first
    | (refine op_is (.insert 32 (.tmp 8) (.const (.string ⟨#[109, 115, 103, 95, 116, 121, 112, 101]⟩)) (.tmp 11)) rfl ?_; refine wpList_insert_own _ rfl _ _ _ 32 rfl 9 20 keyed9 Tryf.underlying32 Rd (w.heap.size + 2) 0 (.map []) rfl (made_map _ _ _) (by unfold maxLen; omega) _ _ _ rfl rfl key1 (.lit (.int .i64 t)) [] rfl ?_)
    | fail)
  intro w1 hown1 hg1
  obtain ⟨W0, hW⟩ : ∃ W0, ((w.alloc (.cells #[.int .i64 t, .int .i64 p, .int .i64 s, .slice (some y) dl dc] 25)).alloc (.cells #[.int .u8 0, .slice none 0 0] 28)) = W0 := ⟨_, rfl⟩
  have hWs : W0.heap.size = w.heap.size + 2 := by rw [← hW]; simp
  have HWS : Hid (W0.heap.size = w.heap.size + 2) := hWs
  rw [hW] at hbx hW0 hg1
  have hB1 : Below (w.heap.size + 2) W0 w1 := ((Below.refl _ _).alloc (by omega) _).grown hg1 (by simp; omega) (fun k hk => by cases hk; omega)
  obtain ⟨e0, e1, e2, e3, er⟩ := hbx.below hB1 (by omega)
  have hs1 := hB1.size
  have hlt1 : w.heap.size < w1.heap.size := by omega
  clear hWs hW hg1
  go_wp2_with (first
    | (refine op_is (.insert 32 (.tmp 8) (.const (.string ⟨#[112, 105, 101, 99, 101]⟩)) (.tmp 14)) rfl ?_; refine wpList_insert_own _ rfl _ _ _ 32 rfl 9 20 keyed9 Tryf.underlying32 Rd (w.heap.size + 2) 1 _ rfl hown1 (by unfold maxLen; omega) _ _ _ rfl rfl key2 (.lit (.int .i64 p)) [] rfl ?_)
    | fail)
  intro w2 hown2 hg2
  have hB2 : Below (w.heap.size + 2) W0 w2 := hB1.grown hg2 (by have := HWS.out; omega) (fun k hk => by cases hk; omega)
  have hm2 : w2.ownsMap Tryf.prog 9 Rd (w.heap.size + 2) 2 (D2 t p) := hown2
  have hs2 := hB2.size
  have hlt2 : w.heap.size < w2.heap.size := by have := HWS.out; omega
  clear e0 e1 e2 e3 er hg2 hown1 hown2 hlt1 hB1 hs1
  obtain ⟨e0, e1, e2, e3, er⟩ := hbx.below hB2 (by omega)
  go_wp2_with (at_mapUpdate; go_must (refine wpList_mapUpdate_own _ rfl _ _ _ 32 rfl 9 20 keyed9 Tryf.underlying32 Rd (w.heap.size + 2) 2 _ rfl hm2 (by unfold maxLen; omega) _ _ _ rfl rfl key3 (.lit (.int .i64 s)) [] rfl ?_))
  intro w5 hown5 hg5
  have hm5 : w5.ownsMap Tryf.prog 9 Rd (w.heap.size + 2) 3 (D3 t p s) := hown5
  have hB5 : Below (w.heap.size + 2) W0 w5 := hB2.grown hg5 (by have := HWS.out; omega) (fun k hk => by cases hk; omega)
  have hs5 := hB5.size
  have hlt5 : w.heap.size < w5.heap.size := by have := HWS.out; omega
  clear e0 e1 e2 e3 er hg5 hm2 hown5 hlt2 hB2 hs2
  obtain ⟨e0, e1, e2, e3, er⟩ := hbx.below hB5 (by omega)
  have hb5 : Below w.heap.size w w5 := hW0.trans (hB5.mono (by omega))
  have c10 := encode3 (w.heap.size + 2) 3 t p s ht hp hs w5 (HT.out.up hb5 hb5.size) hm5
  clear hm5
  go_wp2_with fail
  refine c10.mono ?_
  rintro e w3 ⟨v3, rfl, hown3, hK3⟩
  clear c10
  have hB3 : Below (w.heap.size + 2) W0 w3 := hB5.trans (hK3.below.mono (by have := HWS.out; omega))
  have hs3 := hB3.size
  have hlt3 : w.heap.size < w3.heap.size := by have := HWS.out; omega
  clear e0 e1 e2 e3 er hlt5
  obtain ⟨e0, e1, e2, e3, er⟩ := hbx.below hB3 (by omega)
  have hle := len3 ht hp hs
  have hl : (encD (ps3 t p s)).length = (toI (encD (ps3 t p s))).length := by simp [toI]
  have hl2 : (toI (encD (ps3 t p s))).length ≤ 20000 := by simp [toI, encD]; omega
  have hl0 : (toI (encD (ps3 t p s))).length ≠ 0 := by simp [toI, encD]
  obtain ⟨zs, hzs⟩ : ∃ zs, toI (encD (ps3 t p s)) = zs := ⟨_, rfl⟩
  have hown4 : w3.ownsRow w5.heap.size 5 1 v3 zs.length (zs.map (Value.int .u8)) := by
    rw [← hzs, toI_cells, ← hl]; simpa using hown3
  rw [hzs] at hl2 hl0
  have HZ : Hid (toI (encD (ps3 t p s)) = zs) := hzs
  clear hown3 hzs hl hle
  have hb3 : Below w.heap.size w w3 := hW0.trans (hB3.mono (by omega))
  have hd3 := HD.out.below hb3
  go_wp2_with (at_builtin; go_must (refine wpList_append_own _ rfl (.tmp 32) (.tmp 34) 22 rfl w5.heap.size 5 i0 (.int .u8 0) 1 1 Tryf.underlying22 hi hz0 hz1 hz2 rfl (by decide) v3 zs.length _ rfl hown4 y dl dc (dz.map (Value.int .u8)) rfl ?a0 (hd3.get y rfl) (ints_oneCell _ _) ?a1 ?a2 hK3.below.size ?_))
  case a0 => simp [hdz]
  case a1 => unfold maxLen; omega
  case a2 => omega
  intro v6 w6 hown6 hg6 _
  have hB6 : Below (w.heap.size + 2) W0 w6 := hB3.grown hg6 (by have := HWS.out; omega) (fun k hk => by have h1 := (hown4.lt k hk).1; have h2 := HWS.out; omega)
  have hs6 := hB6.size
  have hlt6 : w.heap.size < w6.heap.size := by have := HWS.out; omega
  clear e0 e1 e2 e3 er hlt3
  obtain ⟨e0, e1, e2, e3, er⟩ := hbx.below hB6 (by omega)
  obtain ⟨qs, hqs⟩ : ∃ qs, zs ++ dz = qs := ⟨_, rfl⟩
  have hql : qs.length = zs.length + dl := by rw [← hqs]; simp [hdz]
  have hown7 : w6.ownsRow w5.heap.size 5 1 v6 qs.length (qs.map (Value.int .u8)) := by
    rw [hql, ← hqs, List.map_append]; exact hown6
  obtain ⟨ao, co, hv6, hrow6, hblk6⟩ := Row.of_own hown7 (by omega)
  obtain ⟨x, rfl⟩ : ∃ x, ao = some x := by
    obtain ⟨b, off, e, _⟩ := hrow6.2.2 (by omega)
    exact ⟨_, e⟩
  rw [hv6]
  have HQ : Hid (zs ++ dz = qs) := hqs
  have c11 := newExt_any id x qs.length co qs w6 hrow6 (by omega)
  have hqb : qs.length ≤ 2000000 := by omega
  clear hown4 hown6 hown7 hv6 hblk6 hg6 hd3 hqs hql
  go_wp2_with fail
  refine c11.mono ?_
  rintro e w4 ⟨a4, c4, rfl, hrow4, hblk4, hB4'⟩
  clear c11
  have hB4 : Below (w.heap.size + 2) W0 w4 := hB6.trans (hB4'.mono (by have := HWS.out; omega))
  have hfin := fun u0 u1 => sent_fin w W0 w4 w.heap.size (id :: qs) a4 c4 u0 u1 rfl hW0 (hB4.mono (by omega)) hrow4 (fun y hy => by have h1 := hblk4 y hy; have h2 := HWS.out; omega)
  have HF : Hid (∀ u0 u1, Sent (id :: qs) w (.returned (.agg #[.int .u8 20, .slice a4 (id :: qs).length c4])) ((w4.setCell ⟨w.heap.size + 1, 0, none⟩ u0).setCell ⟨w.heap.size + 1, 1, none⟩ u1)) := hfin
  clear e0 e1 e2 e3 er hfin hblk4
  obtain ⟨e0, e1, e2, e3, er⟩ := hbx.below hB4 (by omega)
  have hs4 := hB4.size
  have hlt4 : w.heap.size + 1 < w4.heap.size := by have := HWS.out; omega
  have q0 : w4.cell? ⟨w.heap.size + 1, 0, none⟩ = some (.int .u8 0) := by rw [cell_of_row _ _ _ _ 28 (0, 0) er]; rfl
  have q1 : w4.cell? ⟨w.heap.size + 1, 1, none⟩ = some (.slice none 0 0) := by rw [cell_of_row _ _ _ _ 28 (0, 0) er]; rfl
  have f0 : w4.frozen? ⟨w.heap.size + 1, 0, none⟩ = false := frozen_of_row _ _ _ _ 28 er
  have f1 : w4.frozen? ⟨w.heap.size + 1, 1, none⟩ = false := frozen_of_row _ _ _ _ 28 er
  clear e0 e1 e2 e3 er hbx hrow4 hs3 hs4
  rw [List.length_cons]
  have HF2 := HF.out
  rw [List.length_cons] at HF2
  have HF3 : Hid (∀ u0 u1, Sent (id :: qs) w (.returned (.agg #[.int .u8 20, .slice a4 (qs.length + 1) c4])) ((w4.setCell ⟨w.heap.size + 1, 0, none⟩ u0).setCell ⟨w.heap.size + 1, 1, none⟩ u1)) := HF2
  clear HF2 HF
  go_wp2
  rw [HZ.out, HQ.out]
  exact bodyPost_ret (v := .agg #[.int .u8 20, .slice a4 (qs.length + 1) c4]) (by simp [results, Tryf.results6, go_sem, q0, q1]) rfl (HF3.out _ _)

end Go.Proofs.Qxb6627460aFmt
