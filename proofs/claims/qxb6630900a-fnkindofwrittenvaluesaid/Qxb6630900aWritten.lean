/-
  The law FnKindOfWrittenValue (4): its walk, out of the callees' contracts.
-/
import Derived.Test.Qxb6630900aText
namespace Go.Proofs.Qxb6630900a
open Go.RowKit
set_option linter.unusedSimpArgs false
set_option linter.unusedVariables false

theorem kind_cons (zs : List Int) (c : Int) (r : List Int) (hz : zs.all Pl.ws = true) (hc : Pl.ws c = false) : Pl.kindOf (zs ++ c :: r) = Pl.nameOf c := by
  rw [Pl.kind_append_ws zs _ hz]
  simp [Pl.kindOf, List.dropWhile_cons, hc]

theorem num_ws (c : Int) (h : c = 45 ∨ (48 ≤ c ∧ c ≤ 57)) : Pl.ws c = false := by
  simp [Pl.ws]; omega

theorem num_name (c : Int) (h : c = 45 ∨ (48 ≤ c ∧ c ≤ 57)) : Pl.nameOf c = ⟨#[110, 117, 109, 98, 101, 114]⟩ := by
  unfold Pl.nameOf
  have h1 : (c == 123) = false := by simp; omega
  have h2 : (c == 91) = false := by simp; omega
  have h3 : (c == 34) = false := by simp; omega
  have h4 : (c == 116) = false := by simp; omega
  have h5 : (c == 102) = false := by simp; omega
  have h6 : (c == 110) = false := by simp; omega
  simp [h1, h2, h3, h4, h5, h6]

theorem kind0 (zs ds : List Int) (hz : zs.all Pl.ws = true) (hd : IsNum ds) : Pl.kindOf (zs ++ (bytesOf ⟨#[]⟩ ++ (ds ++ bytesOf ⟨#[]⟩))) = ⟨#[110, 117, 109, 98, 101, 114]⟩ := by
  obtain ⟨c, r, rfl, hc, _⟩ := hd
  have := kind_cons zs c r hz (num_ws c hc)
  simpa [bytesOf, num_name c hc] using this

theorem kind1 (zs : List Int) (hz : zs.all Pl.ws = true) : Pl.kindOf (zs ++ (bytesOf ⟨#[116, 114, 117, 101]⟩ ++ bytesOf ⟨#[]⟩)) = ⟨#[98, 111, 111, 108, 101, 97, 110]⟩ :=
  kind_cons zs 116 _ hz rfl

theorem kind2 (zs : List Int) (hz : zs.all Pl.ws = true) : Pl.kindOf (zs ++ (bytesOf ⟨#[102, 97, 108, 115, 101]⟩ ++ bytesOf ⟨#[]⟩)) = ⟨#[98, 111, 111, 108, 101, 97, 110]⟩ :=
  kind_cons zs 102 _ hz rfl

theorem kind3 (zs : List Int) (hz : zs.all Pl.ws = true) : Pl.kindOf (zs ++ (bytesOf ⟨#[110, 117, 108, 108]⟩ ++ bytesOf ⟨#[]⟩)) = ⟨#[110, 117, 108, 108]⟩ :=
  kind_cons zs 110 _ hz rfl

theorem kind4 (zs ds : List Int) (hz : zs.all Pl.ws = true) : Pl.kindOf (zs ++ (bytesOf ⟨#[91]⟩ ++ (ds ++ bytesOf ⟨#[93]⟩))) = ⟨#[108, 105, 115, 116]⟩ :=
  kind_cons zs 91 _ hz rfl

theorem kind5 (zs ds : List Int) (hz : zs.all Pl.ws = true) : Pl.kindOf (zs ++ (bytesOf ⟨#[123, 34, 110, 34, 58]⟩ ++ (ds ++ bytesOf ⟨#[125]⟩))) = ⟨#[111, 98, 106, 101, 99, 116]⟩ :=
  kind_cons zs 123 _ hz rfl

theorem kind6 (zs ds : List Int) (hz : zs.all Pl.ws = true) : Pl.kindOf (zs ++ (bytesOf ⟨#[34]⟩ ++ (ds ++ bytesOf ⟨#[34]⟩))) = ⟨#[115, 116, 114, 105, 110, 103]⟩ :=
  kind_cons zs 34 _ hz rfl

theorem bytes9 (a : Option Addr) (len cap : Nat) (k : Int) (w : World) (h : len ≤ 1048576) :
    Calls Try.prog 9 #[.slice a len cap, .int .i64 k] w fun e w' => e = .returned (.bool true) ∧ w = w' := by
  go_enter Try.func9, Try.ntmps9
  go_wp2
  go_ret
  exact ⟨rfl, rfl⟩
theorem bytes9_no (a : Option Addr) (len cap : Nat) (k : Int) (w : World) (h : 1048576 < len) (hm : len ≤ maxLen) :
    Calls Try.prog 9 #[.slice a len cap, .int .i64 k] w fun e w' => e = .returned (.bool false) ∧ w = w' := by
  unfold maxLen at hm
  go_enter Try.func9, Try.ntmps9
  go_wp2
  go_ret
  exact ⟨rfl, rfl⟩

theorem wv_big (a : Option Addr) (len cap : Nat) (n : Int) (w : World) (h : 1048576 < len) (hm : len ≤ maxLen) :
    Calls Try.prog 4 #[.slice a len cap, .int .i64 n] w fun e w' => e = .returned (.bool true) ∧ Below w.heap.size w w' := by
  go_enter Try.func4, Try.ntmps4
  go_wp2_with (first | (go_at_call 9; refine (bytes9_no _ _ _ _ _ h hm).mono ?_; rintro e w' ⟨rfl, rfl⟩) | fail)
  go_ret
  exact ⟨rfl, Below.refl _ _⟩

theorem wv_long (a : Option Addr) (len cap : Nat) (n : Int) (w : World) (hlen : len ≤ 1048576) (h : 65536 < len) :
    Calls Try.prog 4 #[.slice a len cap, .int .i64 n] w fun e w' => e = .returned (.bool true) ∧ Below w.heap.size w w' := by
  go_enter Try.func4, Try.ntmps4
  go_wp2_with (first | (go_at_call 9; refine (bytes9 _ _ _ _ _ hlen).mono ?_; rintro e w' ⟨rfl, rfl⟩) | fail)
  go_ret
  exact ⟨rfl, Below.refl _ _⟩

theorem wv_not (a : Option Addr) (len cap : Nat) (zs : List Int) (n : Int) (w : World) (hlen : len ≤ 65536) (h : Row w a len zs) (hz : zs.all Pl.ws = false) :
    Calls Try.prog 4 #[.slice a len cap, .int .i64 n] w fun e w' => e = .returned (.bool true) ∧ Below w.heap.size w w' := by
  have cA := allWS_any a len cap zs w h
  rw [hz] at cA
  go_enter Try.func4, Try.ntmps4
  go_wp2_with (first | (go_at_call 9; refine (bytes9 _ _ _ _ _ (by omega)).mono ?_; rintro e w' ⟨rfl, rfl⟩) | (go_at_call 7; refine cA.mono ?_; rintro e w' ⟨rfl, rfl⟩) | fail)
  go_ret
  exact ⟨rfl, Below.refl _ _⟩

set_option maxHeartbeats 1600000 in
theorem wv_main (x : Addr) (len cap : Nat) (zs : List Int) (n : Int) (w : World) (h : Row w (some x) len zs) (hlen : len ≤ 65536) (hz : zs.all Pl.ws = true) (hn : -9223372036854775808 ≤ n) (hn2 : n ≤ 9223372036854775807) :
    Calls Try.prog 4 #[.slice (some x) len cap, .int .i64 n] w fun e w' => e = .returned (.bool true) ∧ Below w.heap.size w w' := by
  have qn : ∀ (w : World) (a : Option Addr) (n c n' c' : Nat), (binOp .neq 22 (.slice a n c) (.slice none n' c')).run Try.prog w = .ok (.bool (!a.isNone)) w := fun w a n c n' c' => run_neq_slice_nil_any w _ _ a n c n' c' Try.underlying22
  have hmk := run_make_row' (P := Try.prog) 22 5 (.int .u8 0) 1 Try.underlying22 Try.info5 rfl .i64 .i64 len (by omega) (by omega)
  have hnothing : Pl.spaces zs = zs.length := by rw [Pl.all_iff] at hz; simpa using hz
  obtain ⟨W2, hcp, hrow, hbel⟩ := copied w x len cap zs h
  have cA := allWS_any (some x) len cap zs w h
  rw [hz] at cA
  go_enter Try.func4, Try.ntmps4
  go_wp2_with (first | (go_at_call 9; refine (bytes9 _ _ _ _ _ (by omega)).mono ?_; rintro e w' ⟨rfl, rfl⟩) | (go_at_call 7; refine cA.mono ?_; rintro e w' ⟨rfl, rfl⟩) | fail)
  clear cA hmk hcp
  have cK := kind_any (some ⟨w.heap.size, 0, none⟩) len len zs W2 hrow
  rw [Pl.kind_nothing zs hnothing] at cK
  refine cK.mono ?_
  rintro e w' ⟨rfl, rfl⟩
  clear cK
  go_wp2_with fail
  refine (text_num (some ⟨w.heap.size, 0, none⟩) len zs ⟨#[]⟩ ⟨#[]⟩ n W2 hrow hlen (by decide) (by decide) (by omega) (by omega)).mono ?_
  rintro e W0x ⟨ds0, a0, m0, c0, rfl, hnum0, hr0, hb0⟩
  have hrow0 := hrow.below hb0
  have hbel0 := hbel.trans (hb0.mono hbel.size)
  have cK := kind_any a0 m0 c0 _ W0x hr0
  rw [kind0 zs ds0 hz hnum0] at cK
  clear hr0
  go_wp2_with fail
  refine cK.mono ?_
  rintro e w' ⟨rfl, rfl⟩
  clear cK
  go_wp2_with fail
  refine (text_bare (some ⟨w.heap.size, 0, none⟩) len zs ⟨#[116, 114, 117, 101]⟩ ⟨#[]⟩ 0 W0x hrow0 hlen (by decide) (by decide) (by omega) (by omega)).mono ?_
  rintro e W1x ⟨a1, m1, c1, rfl, hr1, hb1⟩
  have hrow1 := hrow0.below hb1
  have hbel1 := hbel0.trans (hb1.mono hbel0.size)
  have cK := kind_any a1 m1 c1 _ W1x hr1
  rw [kind1 zs hz] at cK
  clear hr1
  go_wp2_with fail
  refine cK.mono ?_
  rintro e w' ⟨rfl, rfl⟩
  clear cK
  go_wp2_with fail
  refine (text_bare (some ⟨w.heap.size, 0, none⟩) len zs ⟨#[102, 97, 108, 115, 101]⟩ ⟨#[]⟩ 0 W1x hrow1 hlen (by decide) (by decide) (by omega) (by omega)).mono ?_
  rintro e W2x ⟨a2, m2, c2, rfl, hr2, hb2⟩
  have hrow2 := hrow1.below hb2
  have hbel2 := hbel1.trans (hb2.mono hbel1.size)
  have cK := kind_any a2 m2 c2 _ W2x hr2
  rw [kind2 zs hz] at cK
  clear hr2
  go_wp2_with fail
  refine cK.mono ?_
  rintro e w' ⟨rfl, rfl⟩
  clear cK
  go_wp2_with fail
  refine (text_bare (some ⟨w.heap.size, 0, none⟩) len zs ⟨#[110, 117, 108, 108]⟩ ⟨#[]⟩ 0 W2x hrow2 hlen (by decide) (by decide) (by omega) (by omega)).mono ?_
  rintro e W3x ⟨a3, m3, c3, rfl, hr3, hb3⟩
  have hrow3 := hrow2.below hb3
  have hbel3 := hbel2.trans (hb3.mono hbel2.size)
  have cK := kind_any a3 m3 c3 _ W3x hr3
  rw [kind3 zs hz] at cK
  clear hr3
  go_wp2_with fail
  refine cK.mono ?_
  rintro e w' ⟨rfl, rfl⟩
  clear cK
  go_wp2_with fail
  refine (text_num (some ⟨w.heap.size, 0, none⟩) len zs ⟨#[91]⟩ ⟨#[93]⟩ n W3x hrow3 hlen (by decide) (by decide) (by omega) (by omega)).mono ?_
  rintro e W4x ⟨ds4, a4, m4, c4, rfl, hnum4, hr4, hb4⟩
  have hrow4 := hrow3.below hb4
  have hbel4 := hbel3.trans (hb4.mono hbel3.size)
  have cK := kind_any a4 m4 c4 _ W4x hr4
  rw [kind4 zs ds4 hz] at cK
  clear hr4
  go_wp2_with fail
  refine cK.mono ?_
  rintro e w' ⟨rfl, rfl⟩
  clear cK
  go_wp2_with fail
  refine (text_num (some ⟨w.heap.size, 0, none⟩) len zs ⟨#[123, 34, 110, 34, 58]⟩ ⟨#[125]⟩ n W4x hrow4 hlen (by decide) (by decide) (by omega) (by omega)).mono ?_
  rintro e W5x ⟨ds5, a5, m5, c5, rfl, hnum5, hr5, hb5⟩
  have hrow5 := hrow4.below hb5
  have hbel5 := hbel4.trans (hb5.mono hbel4.size)
  have cK := kind_any a5 m5 c5 _ W5x hr5
  rw [kind5 zs ds5 hz] at cK
  clear hr5
  go_wp2_with fail
  refine cK.mono ?_
  rintro e w' ⟨rfl, rfl⟩
  clear cK
  go_wp2_with fail
  refine (text_num (some ⟨w.heap.size, 0, none⟩) len zs ⟨#[34]⟩ ⟨#[34]⟩ n W5x hrow5 hlen (by decide) (by decide) (by omega) (by omega)).mono ?_
  rintro e W6x ⟨ds6, a6, m6, c6, rfl, hnum6, hr6, hb6⟩
  have hrow6 := hrow5.below hb6
  have hbel6 := hbel5.trans (hb6.mono hbel5.size)
  have cK := kind_any a6 m6 c6 _ W6x hr6
  rw [kind6 zs ds6 hz] at cK
  clear hr6
  go_wp2_with fail
  refine cK.mono ?_
  rintro e w' ⟨rfl, rfl⟩
  clear cK
  go_wp2
  go_ret
  exact ⟨rfl, hbel6⟩

set_option maxHeartbeats 1600000 in
theorem wv_nil (n : Int) (w : World) (hn : -9223372036854775808 ≤ n) (hn2 : n ≤ 9223372036854775807) :
    Calls Try.prog 4 #[.slice none 0 0, .int .i64 n] w fun e w' => e = .returned (.bool true) ∧ Below w.heap.size w w' := by
  have qn : ∀ (w : World) (a : Option Addr) (n c n' c' : Nat), (binOp .neq 22 (.slice a n c) (.slice none n' c')).run Try.prog w = .ok (.bool (!a.isNone)) w := fun w a n c n' c' => run_neq_slice_nil_any w _ _ a n c n' c' Try.underlying22
  have hz : ([] : List Int).all Pl.ws = true := rfl
  have hnothing : Pl.spaces [] = ([] : List Int).length := rfl
  have hrow : Row w none 0 [] := ⟨rfl, by omega, fun h => absurd rfl h⟩
  have hbel := Below.refl w.heap.size w
  have hlen : 0 ≤ 65536 := by omega
  have cA := allWS_any none 0 0 [] w hrow
  rw [hz] at cA
  go_enter Try.func4, Try.ntmps4
  go_wp2_with (first | (go_at_call 9; refine (bytes9 _ _ _ _ _ (by omega)).mono ?_; rintro e w' ⟨rfl, rfl⟩) | (go_at_call 7; refine cA.mono ?_; rintro e w' ⟨rfl, rfl⟩) | fail)
  clear cA
  have cK := kind_any none 0 0 [] w hrow
  rw [Pl.kind_nothing [] hnothing] at cK
  refine cK.mono ?_
  rintro e w' ⟨rfl, rfl⟩
  clear cK
  go_wp2_with fail
  refine (text_num none 0 [] ⟨#[]⟩ ⟨#[]⟩ n w hrow hlen (by decide) (by decide) (by omega) (by omega)).mono ?_
  rintro e W0x ⟨ds0, a0, m0, c0, rfl, hnum0, hr0, hb0⟩
  have hrow0 := hrow.below hb0
  have hbel0 := hbel.trans (hb0.mono hbel.size)
  have cK := kind_any a0 m0 c0 _ W0x hr0
  rw [kind0 [] ds0 hz hnum0] at cK
  clear hr0
  go_wp2_with fail
  refine cK.mono ?_
  rintro e w' ⟨rfl, rfl⟩
  clear cK
  go_wp2_with fail
  refine (text_bare none 0 [] ⟨#[116, 114, 117, 101]⟩ ⟨#[]⟩ 0 W0x hrow0 hlen (by decide) (by decide) (by omega) (by omega)).mono ?_
  rintro e W1x ⟨a1, m1, c1, rfl, hr1, hb1⟩
  have hrow1 := hrow0.below hb1
  have hbel1 := hbel0.trans (hb1.mono hbel0.size)
  have cK := kind_any a1 m1 c1 _ W1x hr1
  rw [kind1 [] hz] at cK
  clear hr1
  go_wp2_with fail
  refine cK.mono ?_
  rintro e w' ⟨rfl, rfl⟩
  clear cK
  go_wp2_with fail
  refine (text_bare none 0 [] ⟨#[102, 97, 108, 115, 101]⟩ ⟨#[]⟩ 0 W1x hrow1 hlen (by decide) (by decide) (by omega) (by omega)).mono ?_
  rintro e W2x ⟨a2, m2, c2, rfl, hr2, hb2⟩
  have hrow2 := hrow1.below hb2
  have hbel2 := hbel1.trans (hb2.mono hbel1.size)
  have cK := kind_any a2 m2 c2 _ W2x hr2
  rw [kind2 [] hz] at cK
  clear hr2
  go_wp2_with fail
  refine cK.mono ?_
  rintro e w' ⟨rfl, rfl⟩
  clear cK
  go_wp2_with fail
  refine (text_bare none 0 [] ⟨#[110, 117, 108, 108]⟩ ⟨#[]⟩ 0 W2x hrow2 hlen (by decide) (by decide) (by omega) (by omega)).mono ?_
  rintro e W3x ⟨a3, m3, c3, rfl, hr3, hb3⟩
  have hrow3 := hrow2.below hb3
  have hbel3 := hbel2.trans (hb3.mono hbel2.size)
  have cK := kind_any a3 m3 c3 _ W3x hr3
  rw [kind3 [] hz] at cK
  clear hr3
  go_wp2_with fail
  refine cK.mono ?_
  rintro e w' ⟨rfl, rfl⟩
  clear cK
  go_wp2_with fail
  refine (text_num none 0 [] ⟨#[91]⟩ ⟨#[93]⟩ n W3x hrow3 hlen (by decide) (by decide) (by omega) (by omega)).mono ?_
  rintro e W4x ⟨ds4, a4, m4, c4, rfl, hnum4, hr4, hb4⟩
  have hrow4 := hrow3.below hb4
  have hbel4 := hbel3.trans (hb4.mono hbel3.size)
  have cK := kind_any a4 m4 c4 _ W4x hr4
  rw [kind4 [] ds4 hz] at cK
  clear hr4
  go_wp2_with fail
  refine cK.mono ?_
  rintro e w' ⟨rfl, rfl⟩
  clear cK
  go_wp2_with fail
  refine (text_num none 0 [] ⟨#[123, 34, 110, 34, 58]⟩ ⟨#[125]⟩ n W4x hrow4 hlen (by decide) (by decide) (by omega) (by omega)).mono ?_
  rintro e W5x ⟨ds5, a5, m5, c5, rfl, hnum5, hr5, hb5⟩
  have hrow5 := hrow4.below hb5
  have hbel5 := hbel4.trans (hb5.mono hbel4.size)
  have cK := kind_any a5 m5 c5 _ W5x hr5
  rw [kind5 [] ds5 hz] at cK
  clear hr5
  go_wp2_with fail
  refine cK.mono ?_
  rintro e w' ⟨rfl, rfl⟩
  clear cK
  go_wp2_with fail
  refine (text_num none 0 [] ⟨#[34]⟩ ⟨#[34]⟩ n W5x hrow5 hlen (by decide) (by decide) (by omega) (by omega)).mono ?_
  rintro e W6x ⟨ds6, a6, m6, c6, rfl, hnum6, hr6, hb6⟩
  have hrow6 := hrow5.below hb6
  have hbel6 := hbel5.trans (hb6.mono hbel5.size)
  have cK := kind_any a6 m6 c6 _ W6x hr6
  rw [kind6 [] ds6 hz] at cK
  clear hr6
  go_wp2_with fail
  refine cK.mono ?_
  rintro e w' ⟨rfl, rfl⟩
  clear cK
  go_wp2
  go_ret
  exact ⟨rfl, hbel6⟩

end Go.Proofs.Qxb6630900a
