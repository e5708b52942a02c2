/-
  The law FnChunksRunWrapKeepsChunkWrapIsOne (4): its walk.
-/
import Derived.Test.Qxb6627411aBytes
import Derived.Test.Qxb6627411aWrap
namespace Go.Proofs.Qxb6627411a
open Go.RowKit
set_option linter.unusedSimpArgs false
set_option linter.unusedVariables false

theorem map_wrapped (r x : Nd) (xs : List Nd) : (r :: x :: xs.tail.map fun y => y.withE (y.e + 1)).map pv = Pl.wrapped (pv r) (pv x) (xs.map pv) := by
  simp [Pl.wrapped, List.map_tail, Function.comp_def, pv, Nd.withE]

theorem wrapped_len (r x : Nd) (xs : List Nd) : (r :: x :: xs.tail.map fun y => y.withE (y.e + 1)).length = 2 + (xs.length - 1) := by
  simp; omega

set_option maxHeartbeats 1600000 in
theorem runwrap_walk (ao : Option Addr) (la ca : Nat) (xs : List Nd) (w : World) (hZ : ZRow w ao la xs) (hnil : ao = none → la = 0 ∧ ca = 0) (hm : la ≤ maxLen) :
    Calls Try.prog 4 #[.slice ao la ca] w fun e w' => e = .returned (.bool true) ∧ Below w.heap.size w w' := by
  have c10 := bytes10_any ao la ca xs w hZ hm
  have HZ : Hid (ZRow w ao la xs) := hZ
  have HNIL : Hid (ao = none → la = 0 ∧ ca = 0) := hnil
  clear hZ hnil
  unfold maxLen at hm
  go_enter Try.func4, Try.ntmps4
  go_wp2_with fail
  refine c10.mono ?_
  rintro e w' ⟨b, rfl, hb, rfl⟩
  clear c10
  cases b
  · go_wp2
    go_ret
    exact ⟨rfl, Below.refl _ _⟩
  have hla := hb rfl
  clear hb
  go_wp2_with fail
  go_loop [3, 4] (fun n i => ∃ (x : Int) (k : Nat), n = .int .i64 x ∧ i = .int .i64 k ∧ k ≤ la) (fun _ i => la - (intOf i).toNat)
  case atStart => exact ⟨0, 0, rfl, rfl, by omega⟩
  case round =>
    obtain ⟨x, k, rfl, rfl, hk⟩ := hrel
    by_cases hlt : k < la
    · obtain ⟨b, off, rfl, nd, hnd, c1, c2, c3, c4, c5⟩ := HZ.out.at k hlt
      clear hnd c1 c3 c4 c5
      go_wp2
      · go_ret
        exact ⟨rfl, Below.refl _ _⟩
      · go_round
        case rel => exact ⟨_, k + 1, rfl, by go_num, by omega⟩
        case measure => simp [intOf]; omega
    · have c6 := ends_any ao la ca xs w HZ.out hla
      go_wp2_with fail
      refine c6.mono ?_
      rintro e w' ⟨b, rfl, hb, rfl⟩
      clear c6
      cases b
      · go_wp2
        go_ret
        exact ⟨rfl, Below.refl _ _⟩
      have HO : Hid (Pl.Ok (xs.map pv)) := hb rfl
      have hlen : Hid (xs.length = la) := HZ.out.1
      clear hb
      have c8 := build_any ao la ca xs w HZ.out HNIL.out (by omega)
      go_wp2_with fail
      refine c8.mono ?_
      rintro e w1 ⟨ao1, cap1, rfl, hN1, hB1⟩
      clear c8
      have c7 := chunksOf_any ao1 cap1 la xs w1 hlen.out hN1 HO.out
      obtain ⟨N, hN⟩ : ∃ N, Pl.C (xs.map pv) 1 = N := ⟨_, rfl⟩
      rw [hN] at c7
      have HN : Hid (Pl.C (xs.map pv) 1 = N) := hN
      clear hN hN1
      go_wp2_with fail
      refine c7.mono ?_
      rintro e w2 ⟨rfl, hB2⟩
      clear c7
      have hb2 : Below w.heap.size w w2 := hB1.trans (hB2.mono hB1.size)
      clear hB1 hB2
      have c11 := wrap_any ao la ca xs false w2 (HZ.out.below hb2) (by omega) HO.out
      go_wp2_with fail
      refine c11.mono ?_
      rintro e w3 ⟨r, y, ao3, c3, rfl, hy, hN3, hB3⟩
      clear c11
      have hok3 := Pl.wrapped_ok (pv r) (pv y) (xs.map pv) HO.out (by rw [hy]; have := hlen.out; simp [this])
      have hrun := Pl.wrapped_run (pv r) (pv y) (xs.map pv) HO.out (by rw [hy]; have := hlen.out; simp [this]) (by rw [hy]; rfl)
      rw [← map_wrapped] at hok3 hrun
      have c7 := chunksOf_any ao3 c3 (2 + (la - 1)) _ w3 (by rw [wrapped_len, hlen.out]) hN3 hok3
      rw [hrun, HN.out] at c7
      clear hok3 hrun hy hN3
      go_wp2_with fail
      refine c7.mono ?_
      rintro e w4 ⟨rfl, hB4⟩
      clear c7
      have hb4 : Below w.heap.size w w4 := hb2.trans ((hB3.trans (hB4.mono hB3.size)).mono hb2.size)
      clear hb2 hB3 hB4
      have c11 := wrap_any ao la ca xs true w4 (HZ.out.below hb4) (by omega) HO.out
      go_wp2_with fail
      refine c11.mono ?_
      rintro e w5 ⟨r, y, ao5, c5, rfl, hy, hN5, hB5⟩
      clear c11
      have hok5 := Pl.wrapped_ok (pv r) (pv y) (xs.map pv) HO.out (by rw [hy]; have := hlen.out; simp [this])
      have hchk := Pl.wrapped_chunk (pv r) (pv y) (xs.map pv) HO.out (by rw [hy]; have := hlen.out; simp [this]) (by rw [hy]; rfl)
      rw [← map_wrapped] at hok5 hchk
      have c7 := chunksOf_any ao5 c5 (2 + (la - 1)) _ w5 (by rw [wrapped_len, hlen.out]) hN5 hok5
      rw [hchk] at c7
      clear hok5 hchk hy hN5
      go_wp2_with fail
      refine c7.mono ?_
      rintro e w6 ⟨rfl, hB6⟩
      clear c7
      have hb6 : Below w.heap.size w w6 := hb4.trans ((hB5.trans (hB6.mono hB5.size)).mono hb4.size)
      go_wp2
      all_goals (go_ret; exact ⟨ret_bool (by simp), hb6⟩)

end Go.Proofs.Qxb6627411a
