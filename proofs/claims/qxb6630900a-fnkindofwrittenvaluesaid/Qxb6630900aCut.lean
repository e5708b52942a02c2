import Derived.Test.Qxb6630900aWalks
import Derived.Deep.OwnRows
import Derived.Laws.CopyOwn
import Derived.OpenShut
namespace Go.Proofs.Qxb6630900a
open Go.RowKit
set_option linter.unusedSimpArgs false
set_option linter.unusedVariables false

theorem Try.info5 : (Try.prog.info? 5).map (fun i => (i.zero, i.size, i.bytes)) = some (some (.int .u8 0), 1, 1) := by kernel_rfl
theorem Try.size5 : (Try.prog.info? 5).map (·.size) = some 1 := by kernel_rfl

/-- The two bytes' bound, and nothing else. -/
theorem bytes5 (a : Option Addr) (len cap : Nat) (k : Int) (w : World) (h : len ≤ 1048576) :
    Calls Try.prog 5 #[.slice a len cap, .int .i64 k] w fun e w' => e = .returned (.bool true) ∧ w = w' := by
  go_enter Try.func5, Try.ntmps5
  go_wp2
  go_ret
  exact ⟨rfl, rfl⟩
theorem bytes5_no (a : Option Addr) (len cap : Nat) (k : Int) (w : World) (h : 1048576 < len) (hm : len ≤ maxLen) :
    Calls Try.prog 5 #[.slice a len cap, .int .i64 k] w fun e w' => e = .returned (.bool false) ∧ w = w' := by
  unfold maxLen at hm
  go_enter Try.func5, Try.ntmps5
  go_wp2
  go_ret
  exact ⟨rfl, rfl⟩

theorem Row.get {w : World} {a : Option Addr} {len : Nat} {zs : List Int} (h : Row w a len zs) : ∀ x, a = some x → ∀ j v, (zs.map (Value.int .u8))[j]? = some v → w.cell? (x.add j) = some v := by
  intro x hx j v hv
  obtain ⟨hz, hm, hc⟩ := h
  have hj : j < len := by
    have := (List.getElem?_eq_some_iff.1 hv).1
    simpa [hz] using this
  obtain ⟨b, off, hb, hcell⟩ := hc (by omega)
  rw [hx] at hb
  obtain rfl := Option.some.inj hb
  rw [Addr.add_lit, hcell j hj]
  rw [← hv]
  simp [List.getD, show j < zs.length by omega]

theorem copied (w : World) (x : Addr) (len cap : Nat) (zs : List Int) (h : Row w (some x) len zs) :
    ∃ W2, (Builtin.copy_ #[22, 22] 3 #[.slice (some ⟨w.heap.size, 0, none⟩) len len, .slice (some x) len cap]).run Try.prog (w.alloc (.cells (madeCells #[.int .u8 0] len) 5)) = .ok (goInt len) W2 ∧
      Row W2 (some ⟨w.heap.size, 0, none⟩) len zs ∧ Below w.heap.size w W2 := by
  have hg : (w.alloc (.cells (madeCells #[.int .u8 0] len) 5)).heap[w.heap.size]? = some (.cells (madeCells #[.int .u8 0] len) 5 (0, 0)) := heap_alloc_new w _
  have hl : (zs.map (Value.int .u8)).length = len := by simp [h.1]
  have hs : (madeCells #[.int .u8 0] len).size = len := by simp [madeCells]
  have hr := run_copy_row (P := Try.prog) (w.alloc (.cells (madeCells #[.int .u8 0] len) 5)) 22 22 3 5 w.heap.size 0 len len x len cap (madeCells #[.int .u8 0] len) 5 (zs.map (Value.int .u8)) Try.underlying22 Try.size5 hg
    (by rw [hl]; simp) (fun j v hv => by
      have := h.get x rfl j v hv
      have hb := World.block_lt_of_cell? w _ this
      rw [← this]
      exact ((Below.refl w.heap.size w).alloc (Nat.le_refl _) _).cell (by simpa using hb)) (by rw [hl, hs]; omega) (ints_oneCell _ _)
  rw [hl] at hr
  refine ⟨_, hr, ⟨h.1, h.2.1, fun _ => ⟨_, _, rfl, fun j hj => ?_⟩⟩, below_setRow ((Below.refl _ _).alloc (Nat.le_refl _) _) (Nat.le_refl _) _⟩
  rw [cell_of_row _ _ _ _ 5 (0, 0) (setRow_heap _ _ _ _ 5 _ hg)]
  have : j < zs.length := by rw [h.1]; exact hj
  simp [List.getD, this, hs]

set_option maxHeartbeats 400000 in
theorem isValueKind_any (s : ByteArray) (w : World) (h : s = ⟨#[111, 98, 106, 101, 99, 116]⟩ ∨ s = ⟨#[108, 105, 115, 116]⟩ ∨ s = ⟨#[115, 116, 114, 105, 110, 103]⟩ ∨ s = ⟨#[98, 111, 111, 108, 101, 97, 110]⟩ ∨ s = ⟨#[110, 117, 109, 98, 101, 114]⟩ ∨ s = ⟨#[110, 117, 108, 108]⟩) :
    Calls Try.prog 8 #[.string s] w fun e w' => e = .returned (.bool true) ∧ w = w' := by
  rcases h with rfl | rfl | rfl | rfl | rfl | rfl
  all_goals
    go_enter Try.func8, Try.ntmps8
    go_wp2
    go_ret
    exact ⟨rfl, rfl⟩

theorem Row.head {w : World} {a : Option Addr} {len : Nat} {zs : List Int} (h : Row w a len zs) (k : Nat) (hk : k ≤ len) : Row w a k (zs.take k) := by
  obtain ⟨hz, hm, hc⟩ := h
  refine ⟨by simp; omega, by omega, fun h0 => ?_⟩
  obtain ⟨b, off, hb, hcell⟩ := hc (by omega)
  refine ⟨b, off, hb, fun j hj => ?_⟩
  rw [hcell j (by omega)]
  simp [List.getD, List.getElem?_take, hj]

theorem Row.tail {w : World} {b off : Nat} {len : Nat} {zs : List Int} (h : Row w (some ⟨b, off, none⟩) len zs) (k : Nat) (hk : k ≤ len) (a : Option Addr) (ha : k < len → a = some ⟨b, off + k, none⟩) : Row w a (len - k) (zs.drop k) := by
  obtain ⟨hz, hm, hc⟩ := h
  refine ⟨by simp; omega, by omega, fun h0 => ?_⟩
  obtain ⟨b', off', hb, hcell⟩ := hc (by omega)
  obtain ⟨rfl, rfl⟩ : b = b' ∧ off = off' := by
    have := Option.some.inj hb
    simp only [Addr.mk.injEq] at this
    exact ⟨this.1, this.2.1⟩
  refine ⟨b, off + k, ha (by omega), fun j hj => ?_⟩
  rw [Nat.add_assoc, hcell (k + j) (by omega)]
  simp [List.getD]

set_option maxHeartbeats 400000 in
theorem cut_main (x : Addr) (len cap k : Nat) (zs : List Int) (w : World) (h : Row w (some x) len zs) (hlen : len ≤ 1048576) (hk : k ≤ len) :
    Calls Try.prog 3 #[.slice (some x) len cap, .int .i64 k] w fun e w' => e = .returned (.bool true) ∧ Below w.heap.size w w' := by
  have qn : ∀ (w : World) (a : Option Addr) (n c n' c' : Nat), (binOp .neq 22 (.slice a n c) (.slice none n' c')).run Try.prog w = .ok (.bool (!a.isNone)) w := fun w a n c n' c' => run_neq_slice_nil_any w _ _ a n c n' c' Try.underlying22
  have hmk := run_make_row' (P := Try.prog) 22 5 (.int .u8 0) 1 Try.underlying22 Try.info5 rfl .i64 .i64 len (by omega) (by omega)
  obtain ⟨W2, hcp, hrow, hbel⟩ := copied w x len cap zs h
  have cK := kind_any (some ⟨w.heap.size, 0, none⟩) len len zs W2 hrow
  have cA := allWS_any (some ⟨w.heap.size, 0, none⟩) len len zs W2 hrow
  have cH := fun c => allWS_any (some ⟨w.heap.size, 0, none⟩) k c (zs.take k) W2 (hrow.head k hk)
  have cKH := fun c => kind_any (some ⟨w.heap.size, 0, none⟩) k c (zs.take k) W2 (hrow.head k hk)
  have cKT := fun a n c ha (hn : len - k = n) => by have := kind_any a (len - k) c (zs.drop k) W2 (hrow.tail k hk a ha); rw [hn] at this; exact this
  have hb0 : decide ((k : Int) < 0) = false := by simp
  by_cases hA : zs.all Pl.ws = true
  · have e0 : Pl.kindOf zs = ⟨#[110, 111, 116, 104, 105, 110, 103]⟩ := Pl.kind_nothing zs (by rw [Pl.all_iff] at hA; simpa using hA)
    have hH : (zs.take k).all Pl.ws = true := by
      rw [List.all_eq_true] at hA ⊢
      exact fun y hy => hA y (List.mem_of_mem_take hy)
    have e1 : Pl.kindOf (zs.drop k) = Pl.kindOf zs := by rw [← Pl.kind_append_ws (zs.take k) (zs.drop k) hH, List.take_append_drop]
    simp only [e1, e0, hA, hH] at cK cA cH cKT
    clear e0 e1 hA hH cKH
    go_enter Try.func3, Try.ntmps3
    go_wp2_with (first | (go_at_call 5; refine (bytes5 _ _ _ _ _ hlen).mono ?_; rintro e w' ⟨rfl, rfl⟩) | fail)
    refine cK.mono ?_
    rintro e w' ⟨rfl, rfl⟩
    go_wp2_with fail
    refine cA.mono ?_
    rintro e w' ⟨rfl, rfl⟩
    go_wp2_with fail
    all_goals
      refine (cH _).mono ?_
      rintro e w' ⟨rfl, rfl⟩
      go_wp2_with fail
    all_goals
      refine (cKT _ _ _ ?_ ?_).mono ?_
      · intro _; first | rfl | (simp; done) | (exfalso; omega) | (rw [if_neg (by omega)]; simp)
      · omega
      rintro e w' ⟨rfl, rfl⟩
      go_wp2
      go_ret
      exact ⟨rfl, hbel⟩
  · have hA' : zs.all Pl.ws = false := by simpa using hA
    have cV := fun W => isValueKind_any (Pl.kindOf zs) W (Pl.kind_cases zs hA')
    by_cases hH : (zs.take k).all Pl.ws = true
    · have e1 : Pl.kindOf (zs.drop k) = Pl.kindOf zs := by rw [← Pl.kind_append_ws (zs.take k) (zs.drop k) hH, List.take_append_drop]
      simp only [e1, hA', hH] at cK cA cH cKT
      clear e1 hA hA' hH cKH
      obtain ⟨r, hr⟩ : ∃ r, Pl.kindOf zs = r := ⟨_, rfl⟩
      simp only [hr] at cK cKT cV
      clear hr
      go_enter Try.func3, Try.ntmps3
      go_wp2_with (first | (go_at_call 5; refine (bytes5 _ _ _ _ _ hlen).mono ?_; rintro e w' ⟨rfl, rfl⟩) | fail)
      refine cK.mono ?_
      rintro e w' ⟨rfl, rfl⟩
      go_wp2_with fail
      refine cA.mono ?_
      rintro e w' ⟨rfl, rfl⟩
      go_wp2_with fail
      refine (cV _).mono ?_
      rintro e w' ⟨rfl, rfl⟩
      go_wp2_with fail
      all_goals
        refine (cH _).mono ?_
        rintro e w' ⟨rfl, rfl⟩
        go_wp2_with fail
      all_goals
        refine (cKT _ _ _ ?_ ?_).mono ?_
        · intro _; first | rfl | (simp; done) | (exfalso; omega) | (rw [if_neg (by omega)]; simp)
        · omega
        rintro e w' ⟨rfl, rfl⟩
        go_wp2
        go_ret
        exact ⟨ret_bool (by simp), hbel⟩
    · have hH' : (zs.take k).all Pl.ws = false := by simpa using hH
      have e1 : Pl.kindOf (zs.take k) = Pl.kindOf zs := by rw [← Pl.kind_append_not (zs.take k) (zs.drop k) hH', List.take_append_drop]
      simp only [e1, hA', hH'] at cK cA cH cKH
      clear e1 hA hA' hH hH' cKT
      obtain ⟨r, hr⟩ : ∃ r, Pl.kindOf zs = r := ⟨_, rfl⟩
      simp only [hr] at cK cKH cV
      clear hr
      go_enter Try.func3, Try.ntmps3
      go_wp2_with (first | (go_at_call 5; refine (bytes5 _ _ _ _ _ hlen).mono ?_; rintro e w' ⟨rfl, rfl⟩) | fail)
      refine cK.mono ?_
      rintro e w' ⟨rfl, rfl⟩
      go_wp2_with fail
      refine cA.mono ?_
      rintro e w' ⟨rfl, rfl⟩
      go_wp2_with fail
      refine (cV _).mono ?_
      rintro e w' ⟨rfl, rfl⟩
      go_wp2_with fail
      all_goals
        refine (cH _).mono ?_
        rintro e w' ⟨rfl, rfl⟩
        go_wp2_with fail
      all_goals
        refine (cKH _).mono ?_
        rintro e w' ⟨rfl, rfl⟩
        go_wp2
        go_ret
        exact ⟨ret_bool (by simp), hbel⟩

theorem wf_i64 (a : Int) (h : (Lit.int .i64 a).wf = true) : -9223372036854775808 ≤ a ∧ a ≤ 9223372036854775807 := by
  have := bounds_i64 h
  omega

theorem cut_big (a : Option Addr) (len cap : Nat) (k : Int) (w : World) (h : 1048576 < len) (hm : len ≤ maxLen) :
    Calls Try.prog 3 #[.slice a len cap, .int .i64 k] w fun e w' => e = .returned (.bool true) ∧ Below w.heap.size w w' := by
  go_enter Try.func3, Try.ntmps3
  go_wp2_with (first | (go_at_call 5; refine (bytes5_no _ _ _ _ _ h hm).mono ?_; rintro e w' ⟨rfl, rfl⟩) | fail)
  go_ret
  exact ⟨rfl, Below.refl _ _⟩

theorem cut_out1 (a : Option Addr) (len cap : Nat) (k : Int) (w : World) (hlen : len ≤ 1048576) (hk : k < 0) :
    Calls Try.prog 3 #[.slice a len cap, .int .i64 k] w fun e w' => e = .returned (.bool true) ∧ Below w.heap.size w w' := by
  have hd : decide (k < 0) = true := by simpa using hk
  go_enter Try.func3, Try.ntmps3
  go_wp2_with (first | (go_at_call 5; refine (bytes5 _ _ _ _ _ hlen).mono ?_; rintro e w' ⟨rfl, rfl⟩) | fail)
  go_ret
  exact ⟨rfl, Below.refl _ _⟩

theorem cut_out2 (a : Option Addr) (len cap : Nat) (k : Int) (w : World) (hlen : len ≤ 1048576) (hk : 0 ≤ k) (hk2 : (len : Int) < k) :
    Calls Try.prog 3 #[.slice a len cap, .int .i64 k] w fun e w' => e = .returned (.bool true) ∧ Below w.heap.size w w' := by
  have hd : decide (k < 0) = false := by simpa using hk
  go_enter Try.func3, Try.ntmps3
  go_wp2_with (first | (go_at_call 5; refine (bytes5 _ _ _ _ _ hlen).mono ?_; rintro e w' ⟨rfl, rfl⟩) | fail)
  go_ret
  exact ⟨rfl, Below.refl _ _⟩

theorem cut_nil (w : World) : Calls Try.prog 3 #[.slice none 0 0, .int .i64 0] w fun e w' => e = .returned (.bool true) ∧ Below w.heap.size w w' := by
  have qn : ∀ (w : World) (a : Option Addr) (n c n' c' : Nat), (binOp .neq 22 (.slice a n c) (.slice none n' c')).run Try.prog w = .ok (.bool (!a.isNone)) w := fun w a n c n' c' => run_neq_slice_nil_any w _ _ a n c n' c' Try.underlying22
  have hrow : Row w none 0 [] := ⟨rfl, by omega, fun h => absurd rfl h⟩
  have cK : Calls Try.prog 6 #[.slice none 0 0] w fun e w' => e = .returned (.string ⟨#[110, 111, 116, 104, 105, 110, 103]⟩) ∧ w = w' := kind_any none 0 0 [] w hrow
  have cA : Calls Try.prog 7 #[.slice none 0 0] w fun e w' => e = .returned (.bool true) ∧ w = w' := allWS_any none 0 0 [] w hrow
  go_enter Try.func3, Try.ntmps3
  go_wp2_with (first | (go_at_call 5; refine (bytes5 _ _ _ _ _ (by omega)).mono ?_; rintro e w' ⟨rfl, rfl⟩) | (go_at_call 6; refine cK.mono ?_; rintro e w' ⟨rfl, rfl⟩) | (go_at_call 7; refine cA.mono ?_; rintro e w' ⟨rfl, rfl⟩) | fail)
  go_ret
  exact ⟨rfl, Below.refl _ _⟩

end Go.Proofs.Qxb6630900a
