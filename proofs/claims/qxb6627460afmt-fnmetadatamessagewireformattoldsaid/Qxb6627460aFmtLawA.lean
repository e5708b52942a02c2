/-
  FnMetadataMessageWireFormat (3).
-/
import Derived.Test.Qxb6627460aFmtWire
namespace Go.Proofs.Qxb6627460aFmt
open Go.RowKit
set_option linter.unusedSimpArgs false
set_option linter.unusedVariables false

theorem law3_big (t p s id : Int) (da : Option Addr) (dl dc : Nat) (w : World) (h : 1048576 < dl) (hm : dl ≤ maxLen) :
    Calls Tryf.prog 3 #[.int .i64 t, .int .i64 p, .int .i64 s, .slice da dl dc, .int .u8 id] w fun e w' => e = .returned (.bool true) ∧ w = w' := by
  go_enter Tryf.func3, Tryf.ntmps3
  go_wp2_with (go_at_call 5; refine (bytes5_no _ _ _ _ _ _ _ _ h hm).mono ?_; rintro e w' ⟨rfl, rfl⟩)
  go_ret
  exact ⟨rfl, rfl⟩

set_option maxRecDepth 100000 in
set_option maxHeartbeats 1600000 in
theorem law3_small (t p s id : Int) (da : Option Addr) (dl dc : Nat) (dz : List Int) (w : World) (ht : I64 t) (hp : I64 p) (hs : I64 s) (htab : Tab w.heap.size w) (hdr : Row w da dl dz) (hdl : dl ≤ 1048576) (hnil : da = none → dl = 0 ∧ dc = 0) :
    Calls Tryf.prog 3 #[.int .i64 t, .int .i64 p, .int .i64 s, .slice da dl dc, .int .u8 id] w fun e w' => e = .returned (.bool true) ∧ Below w.heap.size w w' := by
  have HT : Hid (Tab w.heap.size w) := htab
  have HR : Hid (Row w da dl dz) := hdr
  have HN : Hid (da = none → dl = 0 ∧ dc = 0) := hnil
  clear htab hdr hnil
  go_enter Tryf.func3, Tryf.ntmps3
  go_wp2_with (go_at_call 5; refine (bytes5 _ _ _ _ _ _ _ _ hdl).mono ?_; rintro e w' ⟨rfl, rfl⟩)
  obtain ⟨zs, hzs⟩ : ∃ zs, sentI t p s id dz = zs := ⟨_, rfl⟩
  have hlz : zs.length ≤ 2000000 := by
    have h2 := len2 ht hp
    have h3 := len3 ht hp hs
    have h4 := HR.out.1
    rw [← hzs, sentI]
    split
    · simp [toI, encD]; omega
    · simp [toI, encD]; omega
  have hb0 : Below w.heap.size w (w.alloc (.cells #[.int .i64 t, .int .i64 p, .int .i64 s, .slice da dl dc] 25)) := (Below.refl _ _).alloc (Nat.le_refl _) _
  have c6 := message_any t p s da dl dc dz id _ ht hp hs (HT.out.up hb0 hb0.size) (HR.out.below hb0) hdl HN.out
  have c7 := fun W h => wire_any t p s id da dl dc dz W ht hp hs h hdl HN.out
  rw [hzs] at c6
  simp only [hzs] at c7
  clear hzs
  refine c6.mono ?_
  rintro e w1 ⟨a1, k1, rfl, hr1, _, hB1⟩
  have hb1 := hb0.trans (hB1.mono hb0.size)
  have hb2 := hb1.alloc hb1.size (.cells #[.int .u8 20, .slice a1 zs.length k1] 28)
  have hr2 := hr1.below ((Below.refl _ w1).alloc (Nat.le_refl _) (.cells #[.int .u8 20, .slice a1 zs.length k1] 28))
  have c7 := c7 _ (HR.out.below hb2)
  clear c6 hB1 hr1 hb0
  go_wp2_with fail
  refine c7.mono ?_
  rintro e w2 ⟨a2, q2, rfl, hr3, hB2⟩
  have hr4 := hr2.below hB2
  have hb3 := hb2.trans (hB2.mono hb2.size)
  have hg : w2.heap[w1.heap.size]? = some (.cells #[.int .u8 20, .slice a1 zs.length k1] 28 (0, 0)) := by
    rw [hB2.block _ (by simp)]
    exact heap_alloc_new w1 _
  have q0 : w2.cell? ⟨w1.heap.size, 0, none⟩ = some (.int .u8 20) := by rw [cell_of_row _ _ _ _ 28 (0, 0) hg]; rfl
  have q1 : w2.cell? ⟨w1.heap.size, 1, none⟩ = some (.slice a1 zs.length k1) := by rw [cell_of_row _ _ _ _ 28 (0, 0) hg]; rfl
  have c8 := same_any a1 a2 zs.length k1 q2 zs w2 hr4 hr3 (by omega)
  have HB : Hid (Below w.heap.size w w2) := hb3
  clear c7 hB2 hb1 hb2 hb3 hr2 hr3 hr4 hg
  go_wp2_with fail
  refine c8.mono ?_
  rintro e w3 ⟨rfl, m, rfl⟩
  clear c8
  go_wp2
  go_ret
  exact ⟨rfl, below_drewN HB.out m⟩
/-- WHATEVER THE INPUT: true. -/
theorem law3 (t p s id : Int) (da : Option Addr) (dl dc : Nat) (dz : List Int) (w : World) (ht : I64 t) (hp : I64 p) (hs : I64 s) (hid : 0 ≤ id ∧ id ≤ 255) (htab : Tab w.heap.size w) (hdr : dl ≤ 1048576 → Row w da dl dz) (hnil : da = none → dl = 0 ∧ dc = 0) (hm : dl ≤ maxLen) :
    Calls Tryf.prog 3 #[.int .i64 t, .int .i64 p, .int .i64 s, .slice da dl dc, .int .u8 id] w fun e w' => e = .returned (.bool true) ∧ Below w.heap.size w w' := by
  by_cases h : dl ≤ 1048576
  · exact law3_small t p s id da dl dc dz w ht hp hs htab (hdr h) h hnil
  · refine (law3_big t p s id da dl dc w (by omega) hm).mono fun e w' ⟨he, hw⟩ => ⟨he, ?_⟩
    subst hw
    exact Below.refl _ _

end Go.Proofs.Qxb6627460aFmt
