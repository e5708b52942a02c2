/-
  Encode (10), NewExtended (11), Message (6).
-/
import Derived.Test.Qxb6627460aFmtVal
import Derived.Laws.AppendOwnNone
import Derived.Carry
namespace Go.Proofs.Qxb6627460aFmt
open Go.RowKit
set_option linter.unusedSimpArgs false
set_option linter.unusedVariables false

set_option maxHeartbeats 400000 in
theorem encode_map (b nn : Nat) (D : DataW Unit) (ps : List (ByteArray × Int)) (w : World) (htab : Tab w.heap.size w)
    (hmap : w.ownsMap Tryf.prog 9 Rd b nn D) (hsize : Maps.size D ≤ 1000) (hne : ps ≠ []) (hsort : ∀ ss : List (List UInt8), ss.Perm (strKeys D) → ss.mergeSort (fun x y => decide (x ≤ y)) = ps.map fun p => p.1.data.toList)
    (hlook : ∀ k, k < ps.length → D.atKey (.string (ps.getD k P0).1.data.toList) .nil = .lit (.int .i64 (ps.getD k P0).2)) (hks : ∀ k, k < ps.length → (ps.getD k P0).1.size ≤ 1000) (hvs : ∀ k, k < ps.length → -9223372036854775808 ≤ (ps.getD k P0).2 ∧ (ps.getD k P0).2 ≤ 9223372036854775807) (hlen : (encP ps).length ≤ 1000000) (hpl : ps.length ≤ 1000) :
    Calls Tryf.prog 10 #[.iface 32 (.map (some b))] w (WroteT w.heap.size 0 [] (encD ps) w) := by
  have c13 := value_map w.heap.size 0 (.slice none 0 0) [] b nn D ps w (World.ownsRow_nil w w.heap.size 5 1) (Nat.le_refl _) (by omega) htab hmap hmap.lt hsize hne hsort hlook hks hvs hlen hpl
  clear htab hmap hsort hlook hks hvs
  go_enter Tryf.func10, Tryf.ntmps10
  go_wp2_with fail
  refine c13.mono ?_
  rintro e w1 ⟨v1, rfl, hown1, hK1⟩
  clear c13
  go_wp2
  go_ret2
  exact ⟨v1, rfl, hown1, hK1⟩

/-- Bytes as numbers. -/
def toI (l : List UInt8) : List Int := l.map fun b => (b.toNat : Int)
theorem toI_cells (l : List UInt8) : (toI l).map (Value.int .u8) = Lib.byteCells l := by simp [toI, Lib.byteCells]
theorem toI_length (l : List UInt8) : (toI l).length = l.length := by simp [toI]
theorem toI_append (a b : List UInt8) : toI (a ++ b) = toI a ++ toI b := by simp [toI]

/-- What is known of a slice of bytes: 'zs' are its elements. -/
def Row (w : World) (a : Option Addr) (len : Nat) (zs : List Int) : Prop :=
  zs.length = len ∧ len ≤ 140737488355328 ∧ (len ≠ 0 → ∃ b off, a = some ⟨b, off, none⟩ ∧ ∀ j, j < len → w.cell? ⟨b, off + j, none⟩ = some (.int .u8 (zs.getD j 0)))

theorem Row.get {w : World} {a : Option Addr} {len : Nat} {zs : List Int} (h : Row w a len zs) : ∀ x, a = some x → ∀ j v, (zs.map (Value.int .u8))[j]? = some v → w.cell? (x.add j) = some v := by
  intro x hx j v hv
  obtain ⟨hz, hm, hc⟩ := h
  have hj : j < len := by
    have := (List.getElem?_eq_some_iff.1 hv).1
    simpa [hz] using this
  obtain ⟨b, off, hb, hcell⟩ := hc (by omega)
  rw [hx] at hb
  obtain rfl := Option.some.inj hb
  rw [Addr.add_lit, hcell j hj]
  rw [← hv]
  simp [List.getD, show j < zs.length by omega]

theorem Row.of_own {w : World} {base : Nat} {v : Value} {n : Nat} {zs : List Int} (h : w.ownsRow base 5 1 v n (zs.map (Value.int .u8))) (hn : n ≤ 140737488355328) : ∃ a c, v = .slice a n c ∧ Row w a n zs ∧ ∀ x, a = some x → base ≤ x.block := by
  have hl : zs.length = n := by have := h.1; simpa using this
  have H := h
  rcases h.2 with ⟨rfl, rfl⟩ | ⟨g, cap, cur, rfl, hb, hg, _⟩
  · exact ⟨none, 0, rfl, ⟨hl, hn, fun h => absurd rfl h⟩, fun x h => by cases h⟩
  · refine ⟨some ⟨g, 0, none⟩, cap, rfl, ⟨hl, hn, fun _ => ⟨g, 0, rfl, fun j hj => ?_⟩⟩, fun x h => by cases h; exact hb⟩
    rw [Nat.zero_add, H.cellAt j (by omega)]
    simp [List.getD, show j < zs.length by omega]

theorem Row.below {w w' : World} {a : Option Addr} {n : Nat} {zs : List Int} (h : Row w a n zs) (hb : Below w.heap.size w w') : Row w' a n zs := by
  obtain ⟨h1, h2, h3⟩ := h
  refine ⟨h1, h2, fun h0 => ?_⟩
  obtain ⟨b, off, e, hc⟩ := h3 h0
  refine ⟨b, off, e, fun j hj => ?_⟩
  have := hc j hj
  rw [hb.cell (p := ⟨b, off + j, none⟩) (World.block_lt_of_cell? w _ this)]
  exact this

/-- What NewExtended and Message hand back: kind 20, and these bytes. -/
def Sent (zs : List Int) (w : World) (e : Ending) (w' : World) : Prop :=
  ∃ a c, e = .returned (.agg #[.int .u8 20, .slice a zs.length c]) ∧ Row w' a zs.length zs ∧ (∀ x, a = some x → w.heap.size ≤ x.block) ∧ Below w.heap.size w w'

theorem Row.setCell {w : World} {a : Option Addr} {n : Nat} {zs : List Int} (h : Row w a n zs) (p : Addr) (hne : ∀ x, a = some x → x.block ≠ p.block) (v : Value) : Row (w.setCell p v) a n zs := by
  obtain ⟨h1, h2, h3⟩ := h
  refine ⟨h1, h2, fun h0 => ?_⟩
  obtain ⟨b, off, e, hc⟩ := h3 h0
  refine ⟨b, off, e, fun j hj => ?_⟩
  rw [World.cell?_of_block (w := w) (Below.heap_setCell w p v b (hne _ e))]
  exact hc j hj

theorem grownBy_setCell (w : World) (a : Addr) (v : Value) : w.grownBy (w.setCell a v) (some a.block) :=
  ⟨rfl, rfl, rfl, by simp [World.setCell], fun k _ hk => Below.heap_setCell _ _ _ _ (fun e => hk (by rw [e]))⟩

set_option maxHeartbeats 400000 in
theorem newExt_any (id : Int) (x : Addr) (m c : Nat) (zs : List Int) (w : World) (hr : Row w (some x) m zs) (hm : m ≤ 1000000000) :
    Calls Tryf.prog 11 #[.int .u8 id, .slice (some x) m c] w (Sent (id :: zs) w) := by
  obtain ⟨i0, hi, hz0, hz1, hz2⟩ := info_parts Tryf.info5
  have hzl : zs.length = m := hr.1
  have HR : Hid (Row w (some x) m zs) := hr
  clear hr
  have hown0 : ((w.alloc (.cells #[.int .u8 0, .slice none 0 0] 28)).alloc (.cells #[.int .u8 id] 5)).ownsRow w.heap.size 5 1 (.slice (some ⟨w.heap.size + 1, 0, none⟩) 1 1) 1 [.int .u8 id] := by
    have := World.ownsRow_lit (base := w.heap.size) (e := 5) (size := 1) (w.alloc (.cells #[.int .u8 0, .slice none 0 0] 28)) #[.int .u8 id] 1 (by simp) (by simp [maxLen]) rfl
    simpa using this
  have hb0 : Below w.heap.size w ((w.alloc (.cells #[.int .u8 0, .slice none 0 0] 28)).alloc (.cells #[.int .u8 id] 5)) := ((Below.refl _ _).alloc (Nat.le_refl _) _).alloc (by simp) _
  have hr0 := HR.out.below hb0
  go_enter Tryf.func11, Tryf.ntmps11
  go_wp2_with (at_builtin; go_must (refine wpList_append_own _ rfl (.tmp 6) (.tmp 7) 22 rfl w.heap.size 5 i0 (.int .u8 0) 1 1 Tryf.underlying22 hi hz0 hz1 hz2 rfl (by decide) _ 1 _ rfl hown0 x m c (zs.map (Value.int .u8)) rfl ?a0 (hr0.get x rfl) (ints_oneCell _ _) ?a1 ?a2 ?a3 ?_))
  case a0 => simp [hzl]
  case a1 => unfold maxLen; omega
  case a2 => omega
  case a3 => simp; omega
  intro v1 w1 hown1 hg1 _
  have hB1 : Below w.heap.size w w1 := hb0.grown hg1 (by simp; omega) (fun k hk => by simp [Value.ownBlock] at hk; omega)
  have hc0 : w1.heap[w.heap.size]? = some (.cells #[.int .u8 0, .slice none 0 0] 28 (0, 0)) := by
    rw [hg1.block w.heap.size (by simp; omega) (by simp [Value.ownBlock])]
    exact heap_alloc2_old w _ _
  have hown2 : w1.ownsRow w.heap.size 5 1 v1 (id :: zs).length ((id :: zs).map (Value.int .u8)) := by
    have e1 : (id :: zs).length = 1 + m := by simp [hzl]; omega
    rw [e1]
    simpa using hown1
  have hne : v1.ownBlock ≠ some w.heap.size := fun e => by
    obtain ⟨q, fz, hq⟩ := own_kind hown2 _ e
    rw [hc0] at hq
    cases hq
  obtain ⟨a', c', hv1, hrow1, hblk⟩ := Row.of_own hown2 (by simp [hzl]; omega)
  have hown3 := fun u0 u1 => (hown2.kept (grownBy_setCell w1 ⟨w.heap.size, 0, none⟩ u0) (.inr hne)).kept (grownBy_setCell _ ⟨w.heap.size, 1, none⟩ u1) (.inr hne)
  have hrow : ∀ u0 u1, Row ((w1.setCell ⟨w.heap.size, 0, none⟩ u0).setCell ⟨w.heap.size, 1, none⟩ u1) a' (id :: zs).length (id :: zs) := fun u0 u1 => by
    obtain ⟨a2, c2, e2, h2, _⟩ := Row.of_own (hown3 u0 u1) (by simp [hzl]; omega)
    rw [hv1] at e2
    injection e2 with e3
    rw [e3]; exact h2
  rw [hv1]
  clear hown3 hrow1
  have hcell : w1.cell? ⟨w.heap.size, 0, none⟩ = some (.int .u8 0) := by rw [cell_of_row _ _ _ _ 28 (0, 0) hc0]; rfl
  have hcell1 : w1.cell? ⟨w.heap.size, 1, none⟩ = some (.slice none 0 0) := by rw [cell_of_row _ _ _ _ 28 (0, 0) hc0]; rfl
  have hf0 : w1.frozen? ⟨w.heap.size, 0, none⟩ = false := frozen_of_row _ _ _ _ 28 hc0
  have hf1 : w1.frozen? ⟨w.heap.size, 1, none⟩ = false := frozen_of_row _ _ _ _ 28 hc0
  have hlt : w.heap.size < w1.heap.size := (Array.getElem?_eq_some_iff.1 hc0).1
  have e5 : (id :: zs).length = m + 1 := by simp [hzl]
  rw [e5]
  rw [e5] at hrow
  have hfin : ∀ u0 u1, Sent (id :: zs) w (.returned (.agg #[.int .u8 20, .slice a' (m + 1) c'])) ((w1.setCell ⟨w.heap.size, 0, none⟩ u0).setCell ⟨w.heap.size, 1, none⟩ u1) := fun u0 u1 =>
    ⟨a', c', by rw [e5], by rw [e5]; exact hrow u0 u1, hblk, (hB1.setCell (p := ⟨w.heap.size, 0, none⟩) (Nat.le_refl _) _).setCell (p := ⟨w.heap.size, 1, none⟩) (Nat.le_refl _) _⟩
  have HF : Hid (∀ u0 u1, Sent (id :: zs) w (.returned (.agg #[.int .u8 20, .slice a' (m + 1) c'])) ((w1.setCell ⟨w.heap.size, 0, none⟩ u0).setCell ⟨w.heap.size, 1, none⟩ u1)) := hfin
  clear hown1 hg1 hv1 hr0 hb0 hown0 e5 hfin hrow hne hown2 hblk
  go_wp2
  exact bodyPost_ret (v := .agg #[.int .u8 20, .slice a' (m + 1) c']) (by simp [results, Tryf.results11, go_sem, hcell, hcell1]) rfl (HF.out _ _)

/-! ### The dictionary's keys and values -/
def kMsg : ByteArray := ⟨#[109, 115, 103, 95, 116, 121, 112, 101]⟩
def kPiece : ByteArray := ⟨#[112, 105, 101, 99, 101]⟩
def kTotal : ByteArray := ⟨#[116, 111, 116, 97, 108, 95, 115, 105, 122, 101]⟩
def D2 (t p : Int) : DataW Unit := ((DataW.map []).put (.string kMsg.data.toList) (.lit (.int .i64 t))).put (.string kPiece.data.toList) (.lit (.int .i64 p))
def D3 (t p s : Int) : DataW Unit := (D2 t p).put (.string kTotal.data.toList) (.lit (.int .i64 s))
def ps2 (t p : Int) : List (ByteArray × Int) := [(kMsg, t), (kPiece, p)]
def ps3 (t p s : Int) : List (ByteArray × Int) := [(kMsg, t), (kPiece, p), (kTotal, s)]

theorem D2_eq (t p : Int) : D2 t p = .map [(.string kMsg.data.toList, .lit (.int .i64 t)), (.string kPiece.data.toList, .lit (.int .i64 p))] := by kernel_rfl
theorem D3_eq (t p s : Int) : D3 t p s = .map [(.string kMsg.data.toList, .lit (.int .i64 t)), (.string kPiece.data.toList, .lit (.int .i64 p)), (.string kTotal.data.toList, .lit (.int .i64 s))] := by kernel_rfl

theorem sort_id (l : List (List UInt8)) (h : l.Pairwise fun a b => leB a b = true) : l.mergeSort (fun x y => decide (x ≤ y)) = l := List.mergeSort_of_pairwise h
theorem sort2 (t p : Int) (ss : List (List UInt8)) (h : ss.Perm (strKeys (D2 t p))) : ss.mergeSort (fun x y => decide (x ≤ y)) = (ps2 t p).map fun p => p.1.data.toList := by
  rw [D2_eq] at h
  have := mergeSort_of_perm h
  refine this.trans (sort_id [kMsg.data.toList, kPiece.data.toList] ?_)
  decide
theorem sort3 (t p s : Int) (ss : List (List UInt8)) (h : ss.Perm (strKeys (D3 t p s))) : ss.mergeSort (fun x y => decide (x ≤ y)) = (ps3 t p s).map fun p => p.1.data.toList := by
  rw [D3_eq] at h
  have := mergeSort_of_perm h
  refine this.trans (sort_id [kMsg.data.toList, kPiece.data.toList, kTotal.data.toList] ?_)
  decide
theorem look2 (t p : Int) : ∀ k, k < (ps2 t p).length → (D2 t p).atKey (.string ((ps2 t p).getD k P0).1.data.toList) .nil = .lit (.int .i64 ((ps2 t p).getD k P0).2)
  | 0, _ => by kernel_rfl
  | 1, _ => by kernel_rfl
theorem look3 (t p s : Int) : ∀ k, k < (ps3 t p s).length → (D3 t p s).atKey (.string ((ps3 t p s).getD k P0).1.data.toList) .nil = .lit (.int .i64 ((ps3 t p s).getD k P0).2)
  | 0, _ => by kernel_rfl
  | 1, _ => by kernel_rfl
  | 2, _ => by kernel_rfl
def I64 (x : Int) : Prop := -9223372036854775808 ≤ x ∧ x ≤ 9223372036854775807
theorem val2 {t p : Int} (ht : I64 t) (hp : I64 p) : ∀ k, k < (ps2 t p).length → -9223372036854775808 ≤ ((ps2 t p).getD k P0).2 ∧ ((ps2 t p).getD k P0).2 ≤ 9223372036854775807
  | 0, _ => ht
  | 1, _ => hp
theorem val3 {t p s : Int} (ht : I64 t) (hp : I64 p) (hs : I64 s) : ∀ k, k < (ps3 t p s).length → -9223372036854775808 ≤ ((ps3 t p s).getD k P0).2 ∧ ((ps3 t p s).getD k P0).2 ≤ 9223372036854775807
  | 0, _ => ht
  | 1, _ => hp
  | 2, _ => hs
theorem siz2 (t p : Int) : ∀ k, k < (ps2 t p).length → ((ps2 t p).getD k P0).1.size ≤ 1000
  | 0, _ => by show kMsg.size ≤ 1000; decide
  | 1, _ => by show kPiece.size ≤ 1000; decide
theorem siz3 (t p s : Int) : ∀ k, k < (ps3 t p s).length → ((ps3 t p s).getD k P0).1.size ≤ 1000
  | 0, _ => by show kMsg.size ≤ 1000; decide
  | 1, _ => by show kPiece.size ≤ 1000; decide
  | 2, _ => by show kTotal.size ≤ 1000; decide
theorem encInt_len {x : Int} (h : I64 x) : (encInt x).length ≤ 23 := by
  have := Lib.itoa_length_le x h.1 h.2
  simp [encInt]; omega
theorem encS_len (s : ByteArray) (h : s.size ≤ 1000) : (encS s).length ≤ 1022 := by
  have := Lib.itoa_length_le s.size (by omega) (by omega)
  have : s.data.toList.length = s.size := by simp
  simp only [encS, List.length_append, List.length_cons]; omega
theorem len2 {t p : Int} (ht : I64 t) (hp : I64 p) : (encP (ps2 t p)).length ≤ 10000 := by
  have h1 := encS_len kMsg (by decide)
  have h2 := encS_len kPiece (by decide)
  have h3 := encInt_len ht
  have h4 := encInt_len hp
  have e : encP (ps2 t p) = (encS kMsg ++ encInt t) ++ ((encS kPiece ++ encInt p) ++ []) := rfl
  rw [e]
  simp only [List.length_append, List.length_nil]
  omega
theorem len3 {t p s : Int} (ht : I64 t) (hp : I64 p) (hs : I64 s) : (encP (ps3 t p s)).length ≤ 10000 := by
  have h1 := encS_len kMsg (by decide)
  have h2 := encS_len kPiece (by decide)
  have h3 := encInt_len ht
  have h4 := encInt_len hp
  have h5 := encS_len kTotal (by decide)
  have h6 := encInt_len hs
  have e : encP (ps3 t p s) = (encS kMsg ++ encInt t) ++ ((encS kPiece ++ encInt p) ++ ((encS kTotal ++ encInt s) ++ [])) := rfl
  rw [e]
  simp only [List.length_append, List.length_nil]
  omega

theorem encode2 (b nn : Nat) (t p : Int) (ht : I64 t) (hp : I64 p) (w : World) (htab : Tab w.heap.size w) (hmap : w.ownsMap Tryf.prog 9 Rd b nn (D2 t p)) :
    Calls Tryf.prog 10 #[.iface 32 (.map (some b))] w (WroteT w.heap.size 0 [] (encD (ps2 t p)) w) :=
  encode_map b nn (D2 t p) (ps2 t p) w htab hmap (by rw [D2_eq]; simp [Maps.size]) (by simp [ps2]) (sort2 t p) (look2 t p) (siz2 t p) (val2 ht hp) (Nat.le_trans (len2 ht hp) (by omega)) (by simp [ps2])
theorem encode3 (b nn : Nat) (t p s : Int) (ht : I64 t) (hp : I64 p) (hs : I64 s) (w : World) (htab : Tab w.heap.size w) (hmap : w.ownsMap Tryf.prog 9 Rd b nn (D3 t p s)) :
    Calls Tryf.prog 10 #[.iface 32 (.map (some b))] w (WroteT w.heap.size 0 [] (encD (ps3 t p s)) w) :=
  encode_map b nn (D3 t p s) (ps3 t p s) w htab hmap (by rw [D3_eq]; simp [Maps.size]) (by simp [ps3]) (sort3 t p s) (look3 t p s) (siz3 t p s) (val3 ht hp hs) (Nat.le_trans (len3 ht hp hs) (by omega)) (by simp [ps3])

end Go.Proofs.Qxb6627460aFmt
