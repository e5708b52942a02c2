/-
  appendValue (13) at an int64 and at a map of such.
-/
import Derived.Test.Qxb6627460aFmtApp
import Derived.CallsIn
import Derived.Maps.Own
import Derived.Maps.OwnSet
import Derived.Outline
namespace Go.Proofs.Qxb6627460aFmt
open Go.RowKit
set_option linter.unusedSimpArgs false
set_option linter.unusedVariables false

/-- The same, beside a nil error. -/
def WroteT (B n : Nat) (xs : List Value) (l : List UInt8) (w : World) (e : Ending) (w' : World) : Prop :=
  ∃ v', e = .returned (.tuple #[v', .nilIface]) ∧ w'.ownsRow B 5 1 v' (n + l.length) (xs ++ Lib.byteCells l) ∧ Kept B w w'

theorem ta_i9 (i : Int) (w : World) : (Instr.typeAssert (.iface 2 (.int .i64 i)) 20 9 true).run Tryf.prog w = .ok (.tuple #[.string ⟨#[]⟩, .bool false]) w := by kernel_rfl
theorem ta_i22 (i : Int) (w : World) : (Instr.typeAssert (.iface 2 (.int .i64 i)) 20 22 true).run Tryf.prog w = .ok (.tuple #[.slice none 0 0, .bool false]) w := by kernel_rfl
theorem ta_i3 (i : Int) (w : World) : (Instr.typeAssert (.iface 2 (.int .i64 i)) 20 3 true).run Tryf.prog w = .ok (.tuple #[.int .i64 0, .bool false]) w := by kernel_rfl
theorem ta_i2 (i : Int) (w : World) : (Instr.typeAssert (.iface 2 (.int .i64 i)) 20 2 true).run Tryf.prog w = .ok (.tuple #[.int .i64 i, .bool true]) w := by kernel_rfl
theorem ta_m9 (b : Nat) (w : World) : (Instr.typeAssert (.iface 32 (.map (some b))) 20 9 true).run Tryf.prog w = .ok (.tuple #[.string ⟨#[]⟩, .bool false]) w := by kernel_rfl
theorem ta_m22 (b : Nat) (w : World) : (Instr.typeAssert (.iface 32 (.map (some b))) 20 22 true).run Tryf.prog w = .ok (.tuple #[.slice none 0 0, .bool false]) w := by kernel_rfl
theorem ta_m3 (b : Nat) (w : World) : (Instr.typeAssert (.iface 32 (.map (some b))) 20 3 true).run Tryf.prog w = .ok (.tuple #[.int .i64 0, .bool false]) w := by kernel_rfl
theorem ta_m2 (b : Nat) (w : World) : (Instr.typeAssert (.iface 32 (.map (some b))) 20 2 true).run Tryf.prog w = .ok (.tuple #[.int .i64 0, .bool false]) w := by kernel_rfl
theorem ta_m44 (b : Nat) (w : World) : (Instr.typeAssert (.iface 32 (.map (some b))) 20 44 true).run Tryf.prog w = .ok (.tuple #[.slice none 0 0, .bool false]) w := by kernel_rfl
theorem ta_m32 (b : Nat) (w : World) : (Instr.typeAssert (.iface 32 (.map (some b))) 20 32 true).run Tryf.prog w = .ok (.tuple #[.map (some b), .bool true]) w := by kernel_rfl

set_option maxRecDepth 100000 in
set_option maxHeartbeats 800000 in
theorem value_int (B n : Nat) (sv : Value) (xs : List Value) (i : Int) (w : World) (h0 : -9223372036854775808 ≤ i) (h1 : i ≤ 9223372036854775807) (hown : w.ownsRow B 5 1 sv n xs) (hB : B ≤ w.heap.size) (hn : n ≤ 1000000000) (htab : Tab B w) :
    Calls Tryf.prog 13 #[sv, .iface 2 (.int .i64 i)] w (WroteT B n xs (encInt i) w) := by
  have c16 := appendInt_any B n sv xs i w h0 h1 hown hB hn htab
  clear htab hown
  have t9 := ta_i9 i
  have t22 := ta_i22 i
  have t3 := ta_i3 i
  have t2 := ta_i2 i
  go_enter Tryf.func13, Tryf.ntmps13
  go_wp2_with (first | (go_at_call 16; refine c16.mono ?_; rintro e w2 ⟨v2, rfl, hown2, hK2⟩) | fail)
  go_ret2
  exact ⟨v2, rfl, hown2, hK2⟩

/-- How an element of the map reads. -/
def Rd : Value → Option (DataW Unit × List MemPlace)
  | .iface 2 (.int .i64 n) => some (.lit (.int .i64 n), [])
  | .nilIface => some (.nil, [])
  | _ => none

theorem Rd_inv {v : Value} {x : Int} {ps : List MemPlace} (h : Rd v = some (.lit (.int .i64 x), ps)) : v = .iface 2 (.int .i64 x) := by
  unfold Rd at h
  split at h
  · simp at h; rw [h.1]
  · simp at h
  · cases h

theorem keyed9 : Maps.Keyed Tryf.prog 9 := Maps.string_keyed Tryf.underlying9
theorem zero20 (w : World) : (zeroValue 20).run Tryf.prog w = .ok .nilIface w := by kernel_rfl

theorem ownsMap_below {w w' : World} {b nn B : Nat} {D : DataW Unit} (h : w.ownsMap Tryf.prog 9 Rd b nn D) (hb : Below B w w') (hlt : b < B) : w'.ownsMap Tryf.prog 9 Rd b nn D := by
  obtain ⟨es, clock, hh, F, hs, hD⟩ := h
  exact ⟨es, clock, (hb.block b hlt).trans hh, F, hs, hD⟩

theorem kept_of_below {B : Nat} {w w' : World} (hB : B ≤ w.heap.size) (h : Below w.heap.size w w') : Kept B w w' :=
  ⟨h.mono hB, fun k o hk _ _ => (h.block k (Array.getElem?_eq_some_iff.1 hk).1).trans hk⟩

theorem ownsRow_below {w w' : World} {base e size n : Nat} {v : Value} {xs : List Value} (h : w.ownsRow base e size v n xs) (hb : Below w.heap.size w w') : w'.ownsRow base e size v n xs :=
  h.kept (row := none) ⟨hb.os, hb.tape, hb.output, hb.size, fun k hk _ => hb.block k hk⟩ (by cases hv : v.ownBlock <;> simp)

/-- The pairs' bytes. -/
def encP (ps : List (ByteArray × Int)) : List UInt8 := ps.flatMap fun p => encS p.1 ++ encInt p.2
def P0 : ByteArray × Int := (⟨#[]⟩, 0)
theorem encP_step (ps : List (ByteArray × Int)) (k : Nat) (h : k < ps.length) : encP (ps.take (k + 1)) = encP (ps.take k) ++ (encS (ps.getD k P0).1 ++ encInt (ps.getD k P0).2) := by
  unfold encP
  rw [List.take_succ_eq_append_getElem h, List.flatMap_append]
  congr 1
  simp [List.getD, h]
theorem encP_le (ps : List (ByteArray × Int)) (k : Nat) : (encP (ps.take k)).length ≤ (encP ps).length := by
  have : encP ps = encP (ps.take k) ++ encP (ps.drop k) := by
    unfold encP
    rw [← List.flatMap_append, List.take_append_drop]
  rw [this, List.length_append]
  omega

/-- The whole dictionary. -/
def encD (ps : List (ByteArray × Int)) : List UInt8 := 100 :: (encP ps ++ [101])

/-- What is known of the sorted keys' row. -/
def KRow (w : World) (g : Nat) (ps : List (ByteArray × Int)) : Prop := ∃ cur : Array Value, w.heap[g]? = some (.cells cur 9 (0, 0)) ∧ ∀ k, k < ps.length → cur[k]? = some (.string (ps.getD k P0).1)
theorem KRow.cell {w : World} {g : Nat} {ps : List (ByteArray × Int)} (h : KRow w g ps) (k : Nat) (hk : k < ps.length) : w.cell? ⟨g, k, none⟩ = some (.string (ps.getD k P0).1) := by
  obtain ⟨cur, hg, hc⟩ := h
  rw [cell_of_row _ _ _ _ 9 (0, 0) hg]
  exact hc k hk
theorem KRow.kept {w w' : World} {g B : Nat} {ps : List (ByteArray × Int)} (h : KRow w g ps) (hK : Kept B w w') : KRow w' g ps := by
  obtain ⟨cur, hg, hc⟩ := h
  exact ⟨cur, hK.others g _ hg (by simp) (fun c fz e => by injection e with _ e2 _; cases e2), hc⟩
theorem KRow.of_own {w : World} {B : Nat} {v : Value} {n : Nat} {ps : List (ByteArray × Int)} (h : w.ownsRow B 9 1 v n (ps.map fun p => Value.string p.1)) (hne : ps ≠ []) : ∃ g cap, v = .slice (some ⟨g, 0, none⟩) ps.length cap ∧ KRow w g ps := by
  have hl : ps.length = n := by have := h.1; simpa using this
  rcases h.2 with ⟨_, rfl⟩ | ⟨g, cap, cur, rfl, _, hg, _, _, _, htake⟩
  · exact absurd (List.eq_nil_of_length_eq_zero hl) hne
  · refine ⟨g, cap, by rw [hl], cur, hg, fun k hk => ?_⟩
    have : (cur.toList.take (n * 1))[k]? = (ps.map fun p => Value.string p.1)[k]? := by rw [htake]
    rw [List.getElem?_take, if_pos (by omega)] at this
    simpa [List.getD, hk] using this

set_option maxRecDepth 100000 in
set_option maxHeartbeats 1600000 in
theorem value_map (B n : Nat) (sv : Value) (xs : List Value) (b nn : Nat) (D : DataW Unit) (ps : List (ByteArray × Int)) (w : World) (hown : w.ownsRow B 5 1 sv n xs) (hB : B ≤ w.heap.size) (hn : n ≤ 1000000) (htab : Tab B w)
    (hmap : w.ownsMap Tryf.prog 9 Rd b nn D) (hbB : b < B) (hsize : Maps.size D ≤ 1000) (hne : ps ≠ []) (hsort : ∀ ss : List (List UInt8), ss.Perm (strKeys D) → ss.mergeSort (fun x y => decide (x ≤ y)) = ps.map fun p => p.1.data.toList)
    (hlook : ∀ k, k < ps.length → D.atKey (.string (ps.getD k P0).1.data.toList) .nil = .lit (.int .i64 (ps.getD k P0).2)) (hks : ∀ k, k < ps.length → (ps.getD k P0).1.size ≤ 1000) (hvs : ∀ k, k < ps.length → -9223372036854775808 ≤ (ps.getD k P0).2 ∧ (ps.getD k P0).2 ≤ 9223372036854775807) (hlen : (encP ps).length ≤ 1000000) (hpl : ps.length ≤ 1000) :
    Calls Tryf.prog 13 #[sv, .iface 32 (.map (some b))] w (WroteT B n xs (encD ps) w) := by
  obtain ⟨i0, hi, hz0, hz1, hz2⟩ := info_parts Tryf.info5
  have t9 := ta_m9 b
  have t22 := ta_m22 b
  have t3 := ta_m3 b
  have t2 := ta_m2 b
  have t44 := ta_m44 b
  have t32 := ta_m32 b
  have HT : Hid (Tab B w) := htab
  have HM : Hid (w.ownsMap Tryf.prog 9 Rd b nn D) := hmap
  have HS : Hid (∀ ss : List (List UInt8), ss.Perm (strKeys D) → ss.mergeSort (fun x y => decide (x ≤ y)) = ps.map fun p => p.1.data.toList) := hsort
  have HL : Hid (∀ k, k < ps.length → D.atKey (.string (ps.getD k P0).1.data.toList) .nil = .lit (.int .i64 (ps.getD k P0).2)) := hlook
  have HKS : Hid (∀ k, k < ps.length → (ps.getD k P0).1.size ≤ 1000) := hks
  have HVS : Hid (∀ k, k < ps.length → -9223372036854775808 ≤ (ps.getD k P0).2 ∧ (ps.getD k P0).2 ≤ 9223372036854775807) := hvs
  clear htab hmap hsort hlook hks hvs
  go_enter Tryf.func13, Tryf.ntmps13
  go_wp2_with (at_builtin; go_must (refine wpList_append_own _ rfl (.tmp 73) (.tmp 74) 22 rfl B 5 i0 (.int .u8 0) 1 1 Tryf.underlying22 hi hz0 hz1 hz2 rfl (by decide) sv n xs rfl (hown.alloc _) ⟨w.heap.size, 0, none⟩ 1 1 [.int .u8 100] rfl rfl (cell_one_new _ _ _) ?b1 ?b2 ?b3 ?b4 ?_))
  case b1 => intro u hu; simp at hu; subst hu; rfl
  case b2 => unfold maxLen; omega
  case b3 => omega
  case b4 => simp; omega
  intro v1 w1 hown1 hg1 _
  have hK1 : Kept B w w1 := ((Kept.refl B w).alloc hB _).grown (hown.alloc _) (by simp; omega) hg1
  have hB1 := Nat.le_trans hB hK1.below.size
  clear hg1 hown
  have c18 := callsIn_wide.1 (Tryf.maps_Keys_18 (some b) w1)
  have c17 := callsIn_wide.1 (Tryf.slices_Sorted_keys_17_18 b nn D Rd w1 (ownsMap_below HM.out hK1.below hbB) (by unfold maxLen; omega) (by omega))
  go_wp2_with fail
  refine c18.mono ?_
  rintro e w2 ⟨rfl, rfl⟩
  go_wp2_with fail
  refine c17.mono ?_
  rintro e w3 ⟨kv, ss, rfl, hperm, hrow, _, hb3⟩
  clear c17 c18
  rw [HS.out ss hperm] at hrow
  have emap : List.map encStr (ps.map fun p => p.1.data.toList) = ps.map fun p => Value.string p.1 := by simp [encStr]
  rw [emap] at hrow
  obtain ⟨g, kcap, hkv, hkr⟩ := KRow.of_own hrow hne
  rw [hkv]
  have hW : B ≤ (w1.alloc (.cells #[.map (some b)] 32)).heap.size := by simp; omega
  have hK3 : Kept B w w3 := (hK1.alloc hB1 _).trans (kept_of_below hW hb3)
  have hB3 := Nat.le_trans hB hK3.below.size
  have hown3 := ownsRow_below (hown1.alloc _) hb3
  have hown3' : w3.ownsRow B 5 1 v1 (n + 1 + (encP (ps.take 0)).length) (xs ++ Lib.byteCells (100 :: encP (ps.take 0))) := by
    simpa [encP, Lib.byteCells] using hown3
  clear hkv emap hrow hperm hb3 hW hown3 hown1 HS hK1 hB1
  go_wp2_with fail
  go_loopw [0, 80] (fun v i wr => ∃ k : Nat, i = .int .i64 k ∧ k ≤ ps.length ∧ wr.ownsRow B 5 1 v (n + 1 + (encP (ps.take k)).length) (xs ++ Lib.byteCells (100 :: encP (ps.take k))) ∧ Kept B w wr ∧ KRow wr g ps) (fun _ i _ => ps.length - (intOf i).toNat)
  case atStart => exact ⟨0, rfl, by omega, hown3', hK3, hkr⟩
  case round =>
    obtain ⟨k, rfl, hk, hownk, hKk, hkrk⟩ := hrel
    have hBk := Nat.le_trans hB hKk.below.size
    have hle := encP_le ps k
    clear hown3' hK3 hkr hB3
    by_cases hlt : k < ps.length
    · have hck := hkrk.cell k hlt
      have hsz := HKS.out k hlt
      have hv := HVS.out k hlt
      have hst := encP_step ps k hlt
      have hlk := HL.out k hlt
      obtain ⟨⟨s, x⟩, hp⟩ : ∃ p, ps.getD k P0 = p := ⟨_, rfl⟩
      rw [hp] at hck hsz hv hst hlk
      simp only [] at hck hsz hv hst hlk
      obtain ⟨hv0, hv1⟩ := hv
      have HST : Hid (encP (ps.take (k + 1)) = encP (ps.take k) ++ (encS s ++ encInt x)) := hst
      have HLK : Hid (D.atKey (.string s.data.toList) .nil = .lit (.int .i64 x)) := hlk
      have hle1 := encP_le ps (k + 1)
      have hlen1 : (encP (ps.take k)).length + (encS s).length + (encInt x).length ≤ 1000000 := by
        rw [hst] at hle1; simp only [List.length_append] at hle1; omega
      clear hst hlk hp hle1
      have c15 := appendString_any B _ _ _ s wr (by omega) hownk hBk (by omega) (HT.out.on hKk.below)
      go_wp2_with fail
      refine c15.mono ?_
      rintro e w4 ⟨v4, rfl, hown4, hK4⟩
      clear c15
      have hKw4 := hKk.trans hK4
      have hB4 := Nat.le_trans hB hKw4.below.size
      have hm4 := ownsMap_below HM.out hKw4.below hbB
      have hkr4 := hkrk.kept hK4
      obtain ⟨val, pl, hrun, hR⟩ := hm4.lookup keyed9 Tryf.underlying32 (zero20 w4) (zd := .nil) (zp := []) rfl (WideMaps.keyOf_string_mk Tryf.underlying9 (s := s) (by unfold maxLen; omega))
      rw [HLK.out] at hR
      have hval := Rd_inv hR
      subst hval
      have c13 := value_int B _ _ _ x w4 hv0 hv1 hown4 hB4 (by omega) (HT.out.on hKw4.below)
      clear hR hm4
      go_wp2_with fail
      refine c13.mono ?_
      rintro e w5 ⟨v5, rfl, hown5, hK5⟩
      clear c13 hrun
      have hKw5 := hKw4.trans hK5
      have hkr5 := hkr4.kept hK5
      have hown6 : w5.ownsRow B 5 1 v5 (n + 1 + (encP (ps.take (k + 1))).length) (xs ++ Lib.byteCells (100 :: encP (ps.take (k + 1)))) := by
        rw [HST.out]
        have e1 : n + 1 + (encP (ps.take k) ++ (encS s ++ encInt x)).length = n + 1 + (encP (ps.take k)).length + (encS s).length + (encInt x).length := by simp; omega
        have e2 : xs ++ Lib.byteCells (100 :: (encP (ps.take k) ++ (encS s ++ encInt x))) = xs ++ Lib.byteCells (100 :: encP (ps.take k)) ++ Lib.byteCells (encS s) ++ Lib.byteCells (encInt x) := by simp [Lib.byteCells]
        rw [e1, e2]
        exact hown5
      clear hown5 hown4 hownk
      go_wp2
      go_roundw
      case rel => exact ⟨k + 1, by go_num, by omega, hown6, hKw5, hkr5⟩
      case measure => simp [intOf]; omega
    · obtain rfl : k = ps.length := by omega
      rw [List.take_length] at hownk
      clear hkrk hle
      go_wp2_with (at_builtin; go_must (refine wpList_append_own _ rfl (.tmp 103) (.tmp 104) 22 rfl B 5 i0 (.int .u8 0) 1 1 Tryf.underlying22 hi hz0 hz1 hz2 rfl (by decide) _ (n + 1 + (encP ps).length) _ rfl (hownk.alloc _) ⟨wr.heap.size, 0, none⟩ 1 1 [.int .u8 101] rfl rfl (cell_one_new _ _ _) ?d1 ?d2 ?d3 ?d4 ?_))
      case d1 => intro u hu; simp at hu; subst hu; rfl
      case d2 => unfold maxLen; omega
      case d3 => omega
      case d4 => simp; omega
      intro v7 w7 hown7 hg7 _
      have hK7 : Kept B w w7 := (hKk.alloc hBk _).grown (hownk.alloc _) (by simp; omega) hg7
      have hown8 : w7.ownsRow B 5 1 v7 (n + (encD ps).length) (xs ++ Lib.byteCells (encD ps)) := by
        have e1 : n + (encD ps).length = n + 1 + (encP ps).length + 1 := by simp [encD]; omega
        have e2 : xs ++ Lib.byteCells (encD ps) = xs ++ Lib.byteCells (100 :: encP ps) ++ [Value.int .u8 101] := by simp [encD, Lib.byteCells]
        rw [e1, e2]
        simpa using hown7
      clear hown7 hownk hg7
      go_wp2
      go_ret2
      exact ⟨v7, rfl, hown8, hK7⟩

end Go.Proofs.Qxb6627460aFmt
