/-
  The two bounds (5, 9), zzSameBytes (8), Message (6) at any input.
-/
import Derived.Test.Qxb6627460aFmtMess
import Derived.Deep.QuietTactic
import Derived.BigQuiet
import Derived.WalkSmall
namespace Go.Proofs.Qxb6627460aFmt
open Go.RowKit
set_option linter.unusedSimpArgs false
set_option linter.unusedVariables false

theorem bytes5 (t p s id : Int) (a : Option Addr) (len cap : Nat) (w : World) (h : len ≤ 1048576) :
    Calls Tryf.prog 5 #[.int .i64 t, .int .i64 p, .int .i64 s, .slice a len cap, .int .u8 id] w fun e w' => e = .returned (.bool true) ∧ w = w' := by
  go_enter Tryf.func5, Tryf.ntmps5
  go_wp2
  go_ret
  exact ⟨rfl, rfl⟩
theorem bytes5_no (t p s id : Int) (a : Option Addr) (len cap : Nat) (w : World) (h : 1048576 < len) (hm : len ≤ maxLen) :
    Calls Tryf.prog 5 #[.int .i64 t, .int .i64 p, .int .i64 s, .slice a len cap, .int .u8 id] w fun e w' => e = .returned (.bool false) ∧ w = w' := by
  unfold maxLen at hm
  go_enter Tryf.func5, Tryf.ntmps5
  go_wp2
  go_ret
  exact ⟨rfl, rfl⟩
theorem bytes9 (t p s id : Int) (a : Option Addr) (len cap : Nat) (w : World) (h : len ≤ 1048576) :
    Calls Tryf.prog 9 #[.int .i64 t, .int .i64 p, .int .i64 s, .slice a len cap, .int .u8 id] w fun e w' => e = .returned (.bool true) ∧ w = w' := by
  go_enter Tryf.func9, Tryf.ntmps9
  go_wp2
  go_ret
  exact ⟨rfl, rfl⟩
theorem bytes9_no (t p s id : Int) (a : Option Addr) (len cap : Nat) (w : World) (h : 1048576 < len) (hm : len ≤ maxLen) :
    Calls Tryf.prog 9 #[.int .i64 t, .int .i64 p, .int .i64 s, .slice a len cap, .int .u8 id] w fun e w' => e = .returned (.bool false) ∧ w = w' := by
  unfold maxLen at hm
  go_enter Tryf.func9, Tryf.ntmps9
  go_wp2
  go_ret
  exact ⟨rfl, rfl⟩

/-- The loop over two rows of one content. -/
def SameRel (len : Nat) (w : World) (i : Value) (wr : World) : Prop := ∃ k : Nat, k ≤ len ∧ i = .int .i64 k ∧ ∃ m, wr = w.drewN m

set_option maxHeartbeats 800000 in
theorem same_any (a a' : Option Addr) (len cap cap' : Nat) (zs : List Int) (w : World) (h : Row w a len zs) (h' : Row w a' len zs) (hm : len ≤ 1000000000) :
    Calls Tryf.prog 8 #[.slice a len cap, .slice a' len cap'] w fun e w' => e = .returned (.bool true) ∧ ∃ m, w' = w.drewN m := by
  obtain ⟨hz, _, hc⟩ := h
  obtain ⟨_, _, hc'⟩ := h'
  go_enter Tryf.func8, Tryf.ntmps8
  go_wp2
  go_loopw [5] (fun i wr => SameRel len w i wr) (fun i _ => len - (intOf i).toNat)
  case atStart => exact ⟨0, Nat.zero_le _, rfl, 0, rfl⟩
  case round =>
    obtain ⟨k, hk, rfl, m, rfl⟩ := hrel
    by_cases hlt : k < len
    · obtain ⟨b, off, rfl, hcell⟩ := hc (by omega)
      obtain ⟨b', off', rfl, hcell'⟩ := hc' (by omega)
      have hck := hcell k hlt
      have hck' := hcell' k hlt
      clear hcell hcell' hc hc'
      obtain ⟨c, hcd⟩ : ∃ c, zs.getD k 0 = c := ⟨_, rfl⟩
      rw [hcd] at hck hck'
      clear hcd
      have hli : (k : Int) < (len : Int) := by omega
      go_wp2
      go_quiet (fail)
      go_wp2
      go_roundw
      case rel => exact ⟨k + 1, by omega, by go_num, m + nq, by simp⟩
      case measure => simp [intOf]; omega
    · go_wp2
      go_ret
      exact ⟨rfl, m, rfl⟩

/-- Whatever the data: what Message hands back. -/
def sentI (t p s id : Int) (dz : List Int) : List Int := if (t == 1) = true then id :: (toI (encD (ps3 t p s)) ++ dz) else id :: toI (encD (ps2 t p))
theorem message_any (t p s : Int) (da : Option Addr) (dl dc : Nat) (dz : List Int) (id : Int) (w : World) (ht : I64 t) (hp : I64 p) (hs : I64 s) (htab : Tab w.heap.size w) (hdr : Row w da dl dz) (hdl : dl ≤ 1048576) (hnil : da = none → dl = 0 ∧ dc = 0) :
    Calls Tryf.prog 6 #[.agg #[.int .i64 t, .int .i64 p, .int .i64 s, .slice da dl dc], .int .u8 id] w (Sent (sentI t p s id dz) w) := by
  by_cases hne : (t == 1) = true
  · rw [sentI, if_pos hne]
    cases da with
    | none =>
      obtain ⟨rfl, rfl⟩ := hnil rfl
      obtain rfl : dz = [] := List.length_eq_zero_iff.1 hdr.1
      rw [List.append_nil]
      exact message_nil t p s id w ht hp hs htab hne
    | some y => exact message_some t p s y dl dc dz id w ht hp hs htab hne hdr hdl
  · rw [sentI, if_neg hne]
    exact message_no t p s da dl dc id w ht hp hs htab (by simpa using hne)

end Go.Proofs.Qxb6627460aFmt
