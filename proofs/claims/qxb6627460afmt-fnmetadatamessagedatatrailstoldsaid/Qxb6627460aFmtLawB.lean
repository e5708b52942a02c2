/-
  FnMetadataMessageDataTrails (4).
-/
import Derived.Test.Qxb6627460aFmtSame
namespace Go.Proofs.Qxb6627460aFmt
open Go.RowKit
set_option linter.unusedSimpArgs false
set_option linter.unusedVariables false

theorem law4_big (t p s id : Int) (da : Option Addr) (dl dc : Nat) (w : World) (h : 1048576 < dl) (hm : dl ≤ maxLen) :
    Calls Tryf.prog 4 #[.int .i64 t, .int .i64 p, .int .i64 s, .slice da dl dc, .int .u8 id] w fun e w' => e = .returned (.bool true) ∧ w = w' := by
  go_enter Tryf.func4, Tryf.ntmps4
  go_wp2_with (go_at_call 9; refine (bytes9_no _ _ _ _ _ _ _ _ h hm).mono ?_; rintro e w' ⟨rfl, rfl⟩)
  go_ret
  exact ⟨rfl, rfl⟩

/-- The dictionary's bytes, and what trails it. -/
def dictI (t p s : Int) : List Int := if (t == 1) = true then toI (encD (ps3 t p s)) else toI (encD (ps2 t p))
def tailI (t : Int) (dz : List Int) : List Int := if (t == 1) = true then dz else []
theorem sentI_eq (t p s id : Int) (dz : List Int) : sentI t p s id dz = id :: (dictI t p s ++ tailI t dz) := by
  unfold sentI dictI tailI
  split <;> simp
theorem sentI_nil (t p s id : Int) : sentI t p s id [] = id :: dictI t p s := by
  rw [sentI_eq, tailI]
  simp
theorem dict_shape (t p s : Int) (ht : I64 t) (hp : I64 p) (hs : I64 s) : ∃ mid, dictI t p s = 100 :: (mid ++ [101]) ∧ mid.length ≤ 10000 := by
  unfold dictI
  have h2 := len2 ht hp
  have h3 := len3 ht hp hs
  split
  · exact ⟨toI (encP (ps3 t p s)), by simp [encD, toI], by rw [toI_length]; omega⟩
  · exact ⟨toI (encP (ps2 t p)), by simp [encD, toI], by rw [toI_length]; omega⟩

/-- What Message hands back, its length by name. -/
def SentL (zs : List Int) (L : Nat) (w : World) (e : Ending) (w' : World) : Prop :=
  ∃ a c, e = .returned (.agg #[.int .u8 20, .slice a L c]) ∧ Row w' a L zs ∧ Below w.heap.size w w'
theorem Sent.len {zs : List Int} {L : Nat} (hL : zs.length = L) {w : World} {e : Ending} {w' : World} (h : Sent zs w e w') : SentL zs L w e w' := by
  obtain ⟨a, c, he, hr, _, hB⟩ := h
  subst hL
  exact ⟨a, c, he, hr, hB⟩

/-- How the three payloads and the data lie to each other. -/
structure Fit (id io : Int) (m tn : Nat) (z1 z2 z3 dz : List Int) : Prop where
  l1 : z1.length = m + 1 + tn
  l2 : z2.length = m + 1
  l3 : z3.length = m + 1
  m2 : 2 ≤ m
  mb : m ≤ 20000
  i0 : z2.getD 0 0 = id
  i1 : z2.getD 1 0 = 100
  il : z2.getD m 0 = 101
  o0 : z3.getD 0 0 = io
  oi : ∀ k, 1 ≤ k → z3.getD k 0 = z2.getD k 0
  fi : ∀ k, k < m + 1 → z1.getD k 0 = z2.getD k 0
  ft : ∀ j, j < tn → z1.getD (m + 1 + j) 0 = dz.getD j 0
theorem fit_of (t p s id io : Int) (dz : List Int) (ht : I64 t) (hp : I64 p) (hs : I64 s) : Fit id io (dictI t p s).length (tailI t dz).length (sentI t p s id dz) (sentI t p s id []) (sentI t p s io []) dz := by
  obtain ⟨mid, hmid, hml⟩ := dict_shape t p s ht hp hs
  rw [sentI_eq, sentI_nil, sentI_nil]
  have hl : (dictI t p s).length = mid.length + 2 := by rw [hmid]; simp
  refine ⟨by simp; omega, by simp, by simp, by omega, by omega, rfl, by rw [hmid]; rfl, ?_, rfl, ?_, ?_, ?_⟩
  · rw [hl, hmid]
    simp [List.getD]
  · intro k hk
    obtain ⟨k, rfl⟩ : ∃ q, k = q + 1 := ⟨k - 1, by omega⟩
    simp [List.getD]
  · intro k hk
    cases k with
    | zero => rfl
    | succ k =>
      have : k < (dictI t p s).length := by omega
      simp [List.getD, List.getElem?_append, this]
  · intro j hj
    have e : tailI t dz = dz := by
      unfold tailI at hj ⊢
      split at hj
      · rename_i h; rw [if_pos h]
      · simp at hj
    rw [e]
    have : (dictI t p s).length + 1 + j = ((dictI t p s).length + j) + 1 := by omega
    rw [this]
    have h2 : ¬ (dictI t p s).length + j < (dictI t p s).length := by omega
    simp [List.getD, List.getElem?_append, h2]

/-- A halt in the walk: the world by a name. -/
theorem wpList_hold {P : Program} {ops : Array Oper} {rest : List Oper} {a : Act} {w : World} {Q : Exit → Act → World → Prop} (h : ∀ W, w = W → wpList P ops Q rest a W) : wpList P ops Q rest a w := h w rfl
/-- A loop that reads. -/
def TRel (W : World) (lo hi : Nat) (i : Value) (wr : World) : Prop := ∃ k : Nat, lo ≤ k ∧ k ≤ hi ∧ i = .int .i64 k ∧ ∃ d, wr = W.drewN d

theorem Row.up {w W : World} {a : Option Addr} {len : Nat} {zs : List Int} {o : Obj} (h : Row w a len zs) (hB : Below (w.heap.size + 1) (w.alloc o) W) : Row W a len zs :=
  (h.below ((Below.refl _ w).alloc (Nat.le_refl _) o)).below ((show w.heap.size + 1 = (w.alloc o).heap.size by simp) ▸ hB)
theorem Row.at {w : World} {a : Option Addr} {len : Nat} {zs : List Int} (h : Row w a len zs) (h0 : len ≠ 0) : ∃ b off, a = some ⟨b, off, none⟩ ∧ Hid (∀ j, j < len → w.cell? ⟨b, off + j, none⟩ = some (.int .u8 (zs.getD j 0))) := h.2.2 h0

set_option maxRecDepth 100000 in
set_option maxHeartbeats 1600000 in
theorem law4_one (t p s id : Int) (da : Option Addr) (dl dc : Nat) (dz : List Int) (w : World) (ht : I64 t) (hp : I64 p) (hs : I64 s) (htab : Tab w.heap.size w) (hdr : Row w da dl dz) (hdl : dl ≤ 1048576) (hnil : da = none → dl = 0 ∧ dc = 0) (hne : (t == 1) = true) :
    Calls Tryf.prog 4 #[.int .i64 t, .int .i64 p, .int .i64 s, .slice da dl dc, .int .u8 id] w fun e w' => e = .returned (.bool true) ∧ Below w.heap.size w w' := by
  have HT : Hid (Tab w.heap.size w) := htab
  have HR : Hid (Row w da dl dz) := hdr
  have c1 := message_any t p s da dl dc dz id w ht hp hs htab hdr hdl hnil
  have cN := fun i W h => message_any t p s none 0 0 [] i W ht hp hs h ⟨rfl, by omega, fun h => absurd rfl h⟩ (by omega) (fun _ => ⟨rfl, rfl⟩)
  obtain ⟨io, hio⟩ : ∃ io, bits .xor .u8 id 255 = io := ⟨_, rfl⟩
  have hfit := fit_of t p s id io dz ht hp hs
  have c2 := cN id
  have c3 := cN io
  obtain ⟨m, hm⟩ : ∃ m, (dictI t p s).length = m := ⟨_, rfl⟩
  obtain ⟨tn, htn⟩ : ∃ tn, (tailI t dz).length = tn := ⟨_, rfl⟩
  obtain ⟨z1, h1⟩ : ∃ z, sentI t p s id dz = z := ⟨_, rfl⟩
  obtain ⟨z2, h2⟩ : ∃ z, sentI t p s id [] = z := ⟨_, rfl⟩
  obtain ⟨z3, h3⟩ : ∃ z, sentI t p s io [] = z := ⟨_, rfl⟩
  rw [hm, htn, h1, h2, h3] at hfit
  rw [h1] at c1
  rw [h2] at c2
  rw [h3] at c3
  have hdz := hdr.1
  obtain htd : tn = dl := by rw [← htn, tailI, if_pos hne]; exact hdz
  rw [htd] at hfit
  clear htd
  clear htab hdr hnil hm htn h1 h2 h3 cN
  obtain ⟨l1, l2, l3, m2, mb, i0, i1, il, o0, oi, fi, ft⟩ := hfit
  replace c1 := c1.mono fun e w' h => Sent.len l1 h
  replace c2 := fun W h => (c2 W h).mono fun e w' h => Sent.len l2 h
  replace c3 := fun W h => (c3 W h).mono fun e w' h => Sent.len l3 h
  have HL : Hid (z1.length = m + 1 + dl ∧ z2.length = m + 1 ∧ z3.length = m + 1) := ⟨l1, l2, l3⟩
  have HI : Hid (z2.getD 0 0 = id ∧ z2.getD 1 0 = 100 ∧ z2.getD m 0 = 101 ∧ z3.getD 0 0 = io) := ⟨i0, i1, il, o0⟩
  have HO : Hid (∀ k, 1 ≤ k → z3.getD k 0 = z2.getD k 0) := oi
  have HF : Hid (∀ k, k < m + 1 → z1.getD k 0 = z2.getD k 0) := fi
  have HX : Hid (∀ j, j < dl → z1.getD (m + 1 + j) 0 = dz.getD j 0) := ft
  have Hxo : Hid (bits .xor .u8 id 255 = io) := hio
  clear l1 l2 l3 i0 i1 il o0 oi fi ft hio
  go_enter Tryf.func4, Tryf.ntmps4
  go_wp2_with (go_at_call 9; refine (bytes9 _ _ _ _ _ _ _ _ hdl).mono ?_; rintro e w' ⟨rfl, rfl⟩)
  refine c1.mono ?_
  rintro e w1 ⟨a1, k1, rfl, r1, B1⟩
  have R1 : Hid (Row w1 a1 (m + 1 + dl) z1) := r1
  clear c1 r1
  have G1 := B1.alloc B1.size (.cells #[.int .u8 20, .slice a1 (m + 1 + dl) k1] 28)
  replace c2 := c2 _ (HT.out.up G1 G1.size)
  go_wp2_with fail
  refine c2.mono ?_
  rintro e w2 ⟨a2, k2, rfl, r2, B2⟩
  have R2 : Hid (Row w2 a2 (m + 1) z2) := r2
  clear c2 r2
  have G2 := (G1.trans (B2.mono G1.size)).alloc (Nat.le_trans G1.size B2.size) (.cells #[.int .u8 20, .slice a2 (m + 1) k2] 28)
  replace c3 := c3 _ (HT.out.up G2 G2.size)
  go_wp2_with fail
  rw [Hxo.out]
  refine c3.mono ?_
  rintro e w3 ⟨a3, k3, rfl, r3, B3⟩
  have R3 : Hid (Row w3 a3 (m + 1) z3) := r3
  clear c3 r3
  go_wp2_with (refine op_is (.fieldAddr 28 (.tmp 11) 0) rfl ?_; refine wpList_hold ?_)
  intro W hW
  have G3 : Below w.heap.size w W := by rw [← hW]; exact (G2.trans (B3.mono G2.size)).alloc (Nat.le_trans G2.size B3.size) _
  have B3' : Below (w2.heap.size + 1) (w2.alloc (.cells #[.int .u8 20, .slice a2 (m + 1) k2] 28)) W := by
    have e : (w2.alloc (.cells #[.int .u8 20, .slice a2 (m + 1) k2] 28)).heap.size = w2.heap.size + 1 := by simp
    rw [e] at B3
    rw [← hW]; exact B3.alloc (by have := B3.size; rw [e] at this; exact this) _
  have B2' : Below (w1.heap.size + 1) (w1.alloc (.cells #[.int .u8 20, .slice a1 (m + 1 + dl) k1] 28)) W := by
    have e : (w1.alloc (.cells #[.int .u8 20, .slice a1 (m + 1 + dl) k1] 28)).heap.size = w1.heap.size + 1 := by simp
    rw [e] at B2
    have hs : w1.heap.size + 1 ≤ w2.heap.size := by have := B2.size; rw [e] at this; exact this
    exact (B2.alloc hs _).trans (B3'.mono (by omega))
  have g1 : W.heap[w1.heap.size]? = some (.cells #[.int .u8 20, .slice a1 (m + 1 + dl) k1] 28 (0, 0)) := by
    rw [B2'.block _ (by omega)]; exact heap_alloc_new w1 _
  have g2 : W.heap[w2.heap.size]? = some (.cells #[.int .u8 20, .slice a2 (m + 1) k2] 28 (0, 0)) := by
    rw [B3'.block _ (by omega)]; exact heap_alloc_new w2 _
  have g3 : W.heap[w3.heap.size]? = some (.cells #[.int .u8 20, .slice a3 (m + 1) k3] 28 (0, 0)) := by
    rw [← hW]; exact heap_alloc_new w3 _
  have q10 : W.cell? ⟨w1.heap.size, 0, none⟩ = some (.int .u8 20) := by rw [cell_of_row _ _ _ _ 28 (0, 0) g1]; rfl
  have q11 : W.cell? ⟨w1.heap.size, 1, none⟩ = some (.slice a1 (m + 1 + dl) k1) := by rw [cell_of_row _ _ _ _ 28 (0, 0) g1]; rfl
  have q20 : W.cell? ⟨w2.heap.size, 0, none⟩ = some (.int .u8 20) := by rw [cell_of_row _ _ _ _ 28 (0, 0) g2]; rfl
  have q21 : W.cell? ⟨w2.heap.size, 1, none⟩ = some (.slice a2 (m + 1) k2) := by rw [cell_of_row _ _ _ _ 28 (0, 0) g2]; rfl
  have q30 : W.cell? ⟨w3.heap.size, 0, none⟩ = some (.int .u8 20) := by rw [cell_of_row _ _ _ _ 28 (0, 0) g3]; rfl
  have q31 : W.cell? ⟨w3.heap.size, 1, none⟩ = some (.slice a3 (m + 1) k3) := by rw [cell_of_row _ _ _ _ 28 (0, 0) g3]; rfl
  have S1 : Row W a1 (m + 1 + dl) z1 := R1.out.up B2'
  have S2 : Row W a2 (m + 1) z2 := R2.out.up B3'
  have S3 : Row W a3 (m + 1) z3 := by rw [← hW]; exact R3.out.below ((Below.refl _ w3).alloc (Nat.le_refl _) _)
  have SD : Hid (Row W da dl dz) := HR.out.below G3
  have HG : Hid (Below w.heap.size w W) := G3
  clear G1 G2 G3 B1 B2 B3 B2' B3' g1 g2 g3 R1 R2 R3 hW HT HR
  obtain ⟨b1, o1, rfl, C1⟩ := S1.at (by omega)
  obtain ⟨b2, o2, rfl, C2⟩ := S2.at (by omega)
  obtain ⟨b3, o3, rfl, C3⟩ := S3.at (by omega)
  clear S1 S2 S3
  have c20 : W.cell? ⟨b2, o2, none⟩ = some (.int .u8 id) := by have := C2.out 0 (by omega); rw [HI.out.1] at this; exact this
  have c21 : W.cell? ⟨b2, o2 + 1, none⟩ = some (.int .u8 100) := by have := C2.out 1 (by omega); rw [HI.out.2.1] at this; exact this
  have c2l : W.cell? ⟨b2, o2 + m, none⟩ = some (.int .u8 101) := by have := C2.out m (by omega); rw [HI.out.2.2.1] at this; exact this
  have c30 : W.cell? ⟨b3, o3, none⟩ = some (.int .u8 io) := by have := C3.out 0 (by omega); rw [HI.out.2.2.2] at this; exact this
  obtain ⟨N1, hN1⟩ : ∃ N, w1.heap.size = N := ⟨_, rfl⟩
  obtain ⟨N2, hN2⟩ : ∃ N, w2.heap.size = N := ⟨_, rfl⟩
  obtain ⟨N3, hN3⟩ : ∃ N, w3.heap.size = N := ⟨_, rfl⟩
  rw [hN1] at q10 q11 ⊢
  rw [hN2] at q20 q21 ⊢
  rw [hN3] at q30 q31 ⊢
  clear hN1 hN2 hN3
  have m2i : (3 : Int) ≤ (m : Int) + 1 := by omega
  go_wp2
  go_loopw [16] (fun i wr => TRel W 1 (m + 1) i wr) (fun i _ => m + 1 - (intOf i).toNat)
  case atStart => exact ⟨1, by omega, by omega, rfl, 0, rfl⟩
  case round =>
    obtain ⟨k, hk1, hk2, rfl, d, rfl⟩ := hrel
    clear c20 c21 c2l c30
    by_cases hlt : k < m + 1
    · have x2 := C2.out k hlt
      have x3 := C3.out k hlt
      rw [HO.out k hk1] at x3
      obtain ⟨c, hc⟩ : ∃ c, z2.getD k 0 = c := ⟨_, rfl⟩
      rw [hc] at x2 x3
      clear hc
      have hli : (k : Int) < (m : Int) + 1 := by omega
      go_wp2
      go_quiet (fail)
      go_wp2
      go_roundw
      case rel => exact ⟨k + 1, by omega, by omega, by go_num, d + nq, by simp⟩
      case measure => simp [intOf]; omega
    · have hli : decide ((k : Int) < (m : Int) + 1) = false := by simp; omega
      go_wp2
      go_loopw [18] (fun i wr => TRel W 0 (m + 1) i wr) (fun i _ => m + 1 - (intOf i).toNat)
      case atStart => exact ⟨0, by omega, by omega, rfl, d, rfl⟩
      case round =>
        clear hlt hli hk1 hk2
        obtain ⟨k', hk1', hk2', rfl, d', rfl⟩ := hrel
        by_cases hlt : k' < m + 1
        · have x2 := C2.out k' hlt
          have x1 := C1.out k' (by omega)
          rw [HF.out k' hlt] at x1
          obtain ⟨c, hc⟩ : ∃ c, z2.getD k' 0 = c := ⟨_, rfl⟩
          rw [hc] at x1 x2
          clear hc
          have hli : (k' : Int) < (m : Int) + 1 := by omega
          have hli2 : (k' : Int) < (m : Int) + 1 + (dl : Int) := by omega
          go_wp2
          go_quiet (fail)
          go_wp2
          go_roundw
          case rel => exact ⟨k' + 1, by omega, by omega, by go_num, d' + nq, by simp⟩
          case measure => simp [intOf]; omega
        · have hli : decide ((k' : Int) < (m : Int) + 1) = false := by simp; omega
          go_wp2
          go_loopw [19] (fun i wr => TRel W 0 dl i wr) (fun i _ => dl - (intOf i).toNat)
          case atStart => exact ⟨0, by omega, by omega, rfl, d', rfl⟩
          case round =>
            clear hlt hli hk1' hk2'
            obtain ⟨j, hj1, hj2, rfl, d2, rfl⟩ := hrel
            by_cases hlt : j < dl
            · obtain ⟨bd, od, rfl, CD⟩ := SD.out.at (by omega)
              have x1 := C1.out (m + 1 + j) (by omega)
              have xd := CD.out j hlt
              rw [HX.out j hlt] at x1
              obtain ⟨c, hc⟩ : ∃ c, dz.getD j 0 = c := ⟨_, rfl⟩
              rw [hc] at x1 xd
              clear hc
              have hli : (j : Int) < (dl : Int) := by omega
              have hli2 : (m : Int) + 1 + (j : Int) < (m : Int) + 1 + (dl : Int) := by omega
              have hli3 : 0 ≤ (m : Int) + 1 + (j : Int) := by omega
              go_wp2
              go_quiet (fail)
              go_wp2
              go_roundw
              case rel => exact ⟨j + 1, by omega, by omega, by go_num, d2 + nq, by simp⟩
              case measure => simp [intOf]; omega
            · have hli : decide ((j : Int) < (dl : Int)) = false := by simp; omega
              go_wp2
              go_ret
              exact ⟨rfl, below_drewN HG.out d2⟩

set_option maxRecDepth 100000 in
set_option maxHeartbeats 1600000 in
theorem law4_no (t p s id : Int) (da : Option Addr) (dl dc : Nat) (dz : List Int) (w : World) (ht : I64 t) (hp : I64 p) (hs : I64 s) (htab : Tab w.heap.size w) (hdr : Row w da dl dz) (hdl : dl ≤ 1048576) (hnil : da = none → dl = 0 ∧ dc = 0) (hne : (t == 1) = false) :
    Calls Tryf.prog 4 #[.int .i64 t, .int .i64 p, .int .i64 s, .slice da dl dc, .int .u8 id] w fun e w' => e = .returned (.bool true) ∧ Below w.heap.size w w' := by
  have HT : Hid (Tab w.heap.size w) := htab
  have HR : Hid (Row w da dl dz) := hdr
  have c1 := message_any t p s da dl dc dz id w ht hp hs htab hdr hdl hnil
  have cN := fun i W h => message_any t p s none 0 0 [] i W ht hp hs h ⟨rfl, by omega, fun h => absurd rfl h⟩ (by omega) (fun _ => ⟨rfl, rfl⟩)
  obtain ⟨io, hio⟩ : ∃ io, bits .xor .u8 id 255 = io := ⟨_, rfl⟩
  have hfit := fit_of t p s id io dz ht hp hs
  have c2 := cN id
  have c3 := cN io
  obtain ⟨m, hm⟩ : ∃ m, (dictI t p s).length = m := ⟨_, rfl⟩
  obtain ⟨tn, htn⟩ : ∃ tn, (tailI t dz).length = tn := ⟨_, rfl⟩
  obtain ⟨z1, h1⟩ : ∃ z, sentI t p s id dz = z := ⟨_, rfl⟩
  obtain ⟨z2, h2⟩ : ∃ z, sentI t p s id [] = z := ⟨_, rfl⟩
  obtain ⟨z3, h3⟩ : ∃ z, sentI t p s io [] = z := ⟨_, rfl⟩
  rw [hm, htn, h1, h2, h3] at hfit
  rw [h1] at c1
  rw [h2] at c2
  rw [h3] at c3
  have hdz := hdr.1
  obtain htd : tn = 0 := by rw [← htn, tailI, hne]; rfl
  rw [htd] at hfit
  clear htd
  clear htab hdr hnil hm htn h1 h2 h3 cN
  obtain ⟨l1, l2, l3, m2, mb, i0, i1, il, o0, oi, fi, ft⟩ := hfit
  replace c1 := c1.mono fun e w' h => Sent.len l1 h
  replace c2 := fun W h => (c2 W h).mono fun e w' h => Sent.len l2 h
  replace c3 := fun W h => (c3 W h).mono fun e w' h => Sent.len l3 h
  have HL : Hid (z1.length = m + 1 ∧ z2.length = m + 1 ∧ z3.length = m + 1) := ⟨l1, l2, l3⟩
  have HI : Hid (z2.getD 0 0 = id ∧ z2.getD 1 0 = 100 ∧ z2.getD m 0 = 101 ∧ z3.getD 0 0 = io) := ⟨i0, i1, il, o0⟩
  have HO : Hid (∀ k, 1 ≤ k → z3.getD k 0 = z2.getD k 0) := oi
  have HF : Hid (∀ k, k < m + 1 → z1.getD k 0 = z2.getD k 0) := fi
  have HX : Hid (True) := trivial
  have Hxo : Hid (bits .xor .u8 id 255 = io) := hio
  clear l1 l2 l3 i0 i1 il o0 oi fi ft hio
  go_enter Tryf.func4, Tryf.ntmps4
  go_wp2_with (go_at_call 9; refine (bytes9 _ _ _ _ _ _ _ _ hdl).mono ?_; rintro e w' ⟨rfl, rfl⟩)
  refine c1.mono ?_
  rintro e w1 ⟨a1, k1, rfl, r1, B1⟩
  have R1 : Hid (Row w1 a1 (m + 1) z1) := r1
  clear c1 r1
  have G1 := B1.alloc B1.size (.cells #[.int .u8 20, .slice a1 (m + 1) k1] 28)
  replace c2 := c2 _ (HT.out.up G1 G1.size)
  go_wp2_with fail
  refine c2.mono ?_
  rintro e w2 ⟨a2, k2, rfl, r2, B2⟩
  have R2 : Hid (Row w2 a2 (m + 1) z2) := r2
  clear c2 r2
  have G2 := (G1.trans (B2.mono G1.size)).alloc (Nat.le_trans G1.size B2.size) (.cells #[.int .u8 20, .slice a2 (m + 1) k2] 28)
  replace c3 := c3 _ (HT.out.up G2 G2.size)
  go_wp2_with fail
  rw [Hxo.out]
  refine c3.mono ?_
  rintro e w3 ⟨a3, k3, rfl, r3, B3⟩
  have R3 : Hid (Row w3 a3 (m + 1) z3) := r3
  clear c3 r3
  go_wp2_with (refine op_is (.fieldAddr 28 (.tmp 11) 0) rfl ?_; refine wpList_hold ?_)
  intro W hW
  have G3 : Below w.heap.size w W := by rw [← hW]; exact (G2.trans (B3.mono G2.size)).alloc (Nat.le_trans G2.size B3.size) _
  have B3' : Below (w2.heap.size + 1) (w2.alloc (.cells #[.int .u8 20, .slice a2 (m + 1) k2] 28)) W := by
    have e : (w2.alloc (.cells #[.int .u8 20, .slice a2 (m + 1) k2] 28)).heap.size = w2.heap.size + 1 := by simp
    rw [e] at B3
    rw [← hW]; exact B3.alloc (by have := B3.size; rw [e] at this; exact this) _
  have B2' : Below (w1.heap.size + 1) (w1.alloc (.cells #[.int .u8 20, .slice a1 (m + 1) k1] 28)) W := by
    have e : (w1.alloc (.cells #[.int .u8 20, .slice a1 (m + 1) k1] 28)).heap.size = w1.heap.size + 1 := by simp
    rw [e] at B2
    have hs : w1.heap.size + 1 ≤ w2.heap.size := by have := B2.size; rw [e] at this; exact this
    exact (B2.alloc hs _).trans (B3'.mono (by omega))
  have g1 : W.heap[w1.heap.size]? = some (.cells #[.int .u8 20, .slice a1 (m + 1) k1] 28 (0, 0)) := by
    rw [B2'.block _ (by omega)]; exact heap_alloc_new w1 _
  have g2 : W.heap[w2.heap.size]? = some (.cells #[.int .u8 20, .slice a2 (m + 1) k2] 28 (0, 0)) := by
    rw [B3'.block _ (by omega)]; exact heap_alloc_new w2 _
  have g3 : W.heap[w3.heap.size]? = some (.cells #[.int .u8 20, .slice a3 (m + 1) k3] 28 (0, 0)) := by
    rw [← hW]; exact heap_alloc_new w3 _
  have q10 : W.cell? ⟨w1.heap.size, 0, none⟩ = some (.int .u8 20) := by rw [cell_of_row _ _ _ _ 28 (0, 0) g1]; rfl
  have q11 : W.cell? ⟨w1.heap.size, 1, none⟩ = some (.slice a1 (m + 1) k1) := by rw [cell_of_row _ _ _ _ 28 (0, 0) g1]; rfl
  have q20 : W.cell? ⟨w2.heap.size, 0, none⟩ = some (.int .u8 20) := by rw [cell_of_row _ _ _ _ 28 (0, 0) g2]; rfl
  have q21 : W.cell? ⟨w2.heap.size, 1, none⟩ = some (.slice a2 (m + 1) k2) := by rw [cell_of_row _ _ _ _ 28 (0, 0) g2]; rfl
  have q30 : W.cell? ⟨w3.heap.size, 0, none⟩ = some (.int .u8 20) := by rw [cell_of_row _ _ _ _ 28 (0, 0) g3]; rfl
  have q31 : W.cell? ⟨w3.heap.size, 1, none⟩ = some (.slice a3 (m + 1) k3) := by rw [cell_of_row _ _ _ _ 28 (0, 0) g3]; rfl
  have S1 : Row W a1 (m + 1) z1 := R1.out.up B2'
  have S2 : Row W a2 (m + 1) z2 := R2.out.up B3'
  have S3 : Row W a3 (m + 1) z3 := by rw [← hW]; exact R3.out.below ((Below.refl _ w3).alloc (Nat.le_refl _) _)
  have SD : Hid (Row W da dl dz) := HR.out.below G3
  have HG : Hid (Below w.heap.size w W) := G3
  clear G1 G2 G3 B1 B2 B3 B2' B3' g1 g2 g3 R1 R2 R3 hW HT HR
  obtain ⟨b1, o1, rfl, C1⟩ := S1.at (by omega)
  obtain ⟨b2, o2, rfl, C2⟩ := S2.at (by omega)
  obtain ⟨b3, o3, rfl, C3⟩ := S3.at (by omega)
  clear S1 S2 S3
  have c20 : W.cell? ⟨b2, o2, none⟩ = some (.int .u8 id) := by have := C2.out 0 (by omega); rw [HI.out.1] at this; exact this
  have c21 : W.cell? ⟨b2, o2 + 1, none⟩ = some (.int .u8 100) := by have := C2.out 1 (by omega); rw [HI.out.2.1] at this; exact this
  have c2l : W.cell? ⟨b2, o2 + m, none⟩ = some (.int .u8 101) := by have := C2.out m (by omega); rw [HI.out.2.2.1] at this; exact this
  have c30 : W.cell? ⟨b3, o3, none⟩ = some (.int .u8 io) := by have := C3.out 0 (by omega); rw [HI.out.2.2.2] at this; exact this
  obtain ⟨N1, hN1⟩ : ∃ N, w1.heap.size = N := ⟨_, rfl⟩
  obtain ⟨N2, hN2⟩ : ∃ N, w2.heap.size = N := ⟨_, rfl⟩
  obtain ⟨N3, hN3⟩ : ∃ N, w3.heap.size = N := ⟨_, rfl⟩
  rw [hN1] at q10 q11 ⊢
  rw [hN2] at q20 q21 ⊢
  rw [hN3] at q30 q31 ⊢
  clear hN1 hN2 hN3
  have m2i : (3 : Int) ≤ (m : Int) + 1 := by omega
  go_wp2
  go_loopw [16] (fun i wr => TRel W 1 (m + 1) i wr) (fun i _ => m + 1 - (intOf i).toNat)
  case atStart => exact ⟨1, by omega, by omega, rfl, 0, rfl⟩
  case round =>
    obtain ⟨k, hk1, hk2, rfl, d, rfl⟩ := hrel
    clear c20 c21 c2l c30
    by_cases hlt : k < m + 1
    · have x2 := C2.out k hlt
      have x3 := C3.out k hlt
      rw [HO.out k hk1] at x3
      obtain ⟨c, hc⟩ : ∃ c, z2.getD k 0 = c := ⟨_, rfl⟩
      rw [hc] at x2 x3
      clear hc
      have hli : (k : Int) < (m : Int) + 1 := by omega
      go_wp2
      go_quiet (fail)
      go_wp2
      go_roundw
      case rel => exact ⟨k + 1, by omega, by omega, by go_num, d + nq, by simp⟩
      case measure => simp [intOf]; omega
    · have hli : decide ((k : Int) < (m : Int) + 1) = false := by simp; omega
      go_wp2
      go_loopw [18] (fun i wr => TRel W 0 (m + 1) i wr) (fun i _ => m + 1 - (intOf i).toNat)
      case atStart => exact ⟨0, by omega, by omega, rfl, d, rfl⟩
      case round =>
        clear hlt hli hk1 hk2
        obtain ⟨k', hk1', hk2', rfl, d', rfl⟩ := hrel
        by_cases hlt : k' < m + 1
        · have x2 := C2.out k' hlt
          have x1 := C1.out k' (by omega)
          rw [HF.out k' hlt] at x1
          obtain ⟨c, hc⟩ : ∃ c, z2.getD k' 0 = c := ⟨_, rfl⟩
          rw [hc] at x1 x2
          clear hc
          have hli : (k' : Int) < (m : Int) + 1 := by omega
          have hli2 : (k' : Int) < (m : Int) + 1 := by omega
          go_wp2
          go_quiet (fail)
          go_wp2
          go_roundw
          case rel => exact ⟨k' + 1, by omega, by omega, by go_num, d' + nq, by simp⟩
          case measure => simp [intOf]; omega
        · have hli : decide ((k' : Int) < (m : Int) + 1) = false := by simp; omega
          go_wp2
          go_loopw [19] (fun i wr => TRel W 0 0 i wr) (fun i _ => 0 - (intOf i).toNat)
          case atStart => exact ⟨0, by omega, by omega, rfl, d', rfl⟩
          case round =>
            clear hlt hli hk1' hk2'
            obtain ⟨j, hj1, hj2, rfl, d2, rfl⟩ := hrel
            obtain rfl : j = 0 := by omega
            go_wp2
            go_ret
            exact ⟨rfl, below_drewN HG.out d2⟩

/-- WHATEVER THE INPUT: true. -/
theorem law4 (t p s id : Int) (da : Option Addr) (dl dc : Nat) (dz : List Int) (w : World) (ht : I64 t) (hp : I64 p) (hs : I64 s) (hid : 0 ≤ id ∧ id ≤ 255) (htab : Tab w.heap.size w) (hdr : dl ≤ 1048576 → Row w da dl dz) (hnil : da = none → dl = 0 ∧ dc = 0) (hm : dl ≤ maxLen) :
    Calls Tryf.prog 4 #[.int .i64 t, .int .i64 p, .int .i64 s, .slice da dl dc, .int .u8 id] w fun e w' => e = .returned (.bool true) ∧ Below w.heap.size w w' := by
  by_cases h : dl ≤ 1048576
  · by_cases hne : (t == 1) = true
    · exact law4_one t p s id da dl dc dz w ht hp hs htab (hdr h) h hnil hne
    · exact law4_no t p s id da dl dc dz w ht hp hs htab (hdr h) h hnil (by simpa using hne)
  · refine (law4_big t p s id da dl dc w (by omega) hm).mono fun e w' ⟨he, hw⟩ => ⟨he, ?_⟩
    subst hw
    exact Below.refl _ _

end Go.Proofs.Qxb6627460aFmt
