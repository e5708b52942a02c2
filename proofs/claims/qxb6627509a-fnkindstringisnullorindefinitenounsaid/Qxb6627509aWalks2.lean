/-
  The walks: zzIsVowel (8), zzLowerWord (7), Kind.String (5), the law (4).
-/
import Derived.Test.Qxb6627509aRows
import Derived.WalkKit
import Derived.WalkSpells
import Derived.RowKit3
namespace Go.Proofs.Qxb6627509a
open Go.RowKit
set_option linter.unusedSimpArgs false
set_option linter.unusedVariables false

theorem ret_bool {a b : Bool} (h : a = b) : Ending.returned (.bool a) = .returned (.bool b) := by rw [h]

def vowel (c : Int) : Bool := c == 97 || c == 101 || c == 105 || c == 111 || c == 117

theorem vowel_any (c : Int) (w : World) : Calls Try.prog 8 #[.int .u8 c] w fun e w' => e = .returned (.bool (vowel c)) ∧ w = w' := by
  go_enter Try.func8, Try.ntmps8
  go_wp2
  all_goals (go_ret; exact ⟨ret_bool (by simp [vowel, *]), rfl⟩)

set_option maxHeartbeats 400000 in
theorem lower_any (s : ByteArray) (w : World) (h0 : 0 < s.size) (hs : s.size ≤ 1000) (h : ∀ (k : Nat) (hk : k < s.size), 97 ≤ (s[k].toNat : Int) ∧ (s[k].toNat : Int) ≤ 122) :
    Calls Try.prog 7 #[.string s] w fun e w' => e = .returned (.bool true) ∧ w = w' := by
  have hne : ((s.size : Int) == 0) = false := beq_eq_false_iff_ne.2 (by omega)
  have H : Hid (∀ (k : Nat) (hk : k < s.size), 97 ≤ (s[k].toNat : Int) ∧ (s[k].toNat : Int) ≤ 122) := h
  clear h
  go_enter Try.func7, Try.ntmps7
  go_wp2
  go_loop [3] (fun i => ∃ k : Nat, k ≤ s.size ∧ i = .int .i64 k) (fun i => s.size - (intOf i).toNat)
  case atStart => exact ⟨0, by omega, rfl⟩
  case round =>
    obtain ⟨k, hk, rfl⟩ := hrel
    by_cases hlt : k < s.size
    · obtain ⟨h1, h2⟩ := H.out k hlt
      have hd1 : decide ((s[k].toNat : Int) < 97) = false := by simp; omega
      go_wp2
      go_round
      case rel => exact ⟨k + 1, by omega, by go_num⟩
      case measure => simp [intOf]; omega
    · go_wp2
      go_ret
      exact ⟨rfl, rfl⟩

set_option maxHeartbeats 800000 in
theorem noun_null (w : World) : Calls Try.prog 4 #[.int .i64 0] w fun e w' => e = .returned (.bool true) ∧ Grown w w' := by
  go_enter Try.func4, Try.ntmps4
  go_wp2
  go_ret
  exact ⟨rfl, Grown.refl _⟩

set_option maxHeartbeats 800000 in
theorem noun_bool (w : World) : Calls Try.prog 4 #[.int .i64 1] w fun e w' => e = .returned (.bool true) ∧ Grown w w' := by
  go_enter Try.func4, Try.ntmps4
  go_wp2_with (first
    | (go_at_call 7; go_must (refine (lower_any _ _ (by decide) (by decide) (by decide)).mono ?_); rintro e w' ⟨rfl, rfl⟩)
    | (go_at_call 8; refine (vowel_any _ _).mono ?_; rintro e w' ⟨rfl, rfl⟩)
    | go_in)
  go_ret
  exact ⟨rfl, Grown.refl _⟩

set_option maxHeartbeats 800000 in
theorem noun_string (w : World) : Calls Try.prog 4 #[.int .i64 3] w fun e w' => e = .returned (.bool true) ∧ Grown w w' := by
  go_enter Try.func4, Try.ntmps4
  go_wp2_with (first
    | (go_at_call 7; go_must (refine (lower_any _ _ (by decide) (by decide) (by decide)).mono ?_); rintro e w' ⟨rfl, rfl⟩)
    | (go_at_call 8; refine (vowel_any _ _).mono ?_; rintro e w' ⟨rfl, rfl⟩)
    | go_in)
  go_ret
  exact ⟨rfl, Grown.refl _⟩

set_option maxHeartbeats 800000 in
theorem noun_array (w : World) : Calls Try.prog 4 #[.int .i64 4] w fun e w' => e = .returned (.bool true) ∧ Grown w w' := by
  go_enter Try.func4, Try.ntmps4
  go_wp2_with (first
    | (go_at_call 7; go_must (refine (lower_any _ _ (by decide) (by decide) (by decide)).mono ?_); rintro e w' ⟨rfl, rfl⟩)
    | (go_at_call 8; refine (vowel_any _ _).mono ?_; rintro e w' ⟨rfl, rfl⟩)
    | go_in)
  go_ret
  exact ⟨rfl, Grown.refl _⟩

set_option maxHeartbeats 800000 in
theorem noun_object (w : World) : Calls Try.prog 4 #[.int .i64 5] w fun e w' => e = .returned (.bool true) ∧ Grown w w' := by
  go_enter Try.func4, Try.ntmps4
  go_wp2_with (first
    | (go_at_call 7; go_must (refine (lower_any _ _ (by decide) (by decide) (by decide)).mono ?_); rintro e w' ⟨rfl, rfl⟩)
    | (go_at_call 8; refine (vowel_any _ _).mono ?_; rintro e w' ⟨rfl, rfl⟩)
    | go_in)
  go_ret
  exact ⟨rfl, Grown.refl _⟩

set_option maxHeartbeats 800000 in
theorem noun_other (k : Int) (w : World) (h0 : (k == 0) = false) (h1 : (k == 1) = false) (h3 : (k == 3) = false) (h4 : (k == 4) = false) (h5 : (k == 5) = false) :
    Calls Try.prog 4 #[.int .i64 k] w fun e w' => e = .returned (.bool true) ∧ Grown w w' := by
  go_enter Try.func4, Try.ntmps4
  go_wp2_with (first
    | (go_at_call 7; go_must (refine (lower_any _ _ (by decide) (by decide) (by decide)).mono ?_); rintro e w' ⟨rfl, rfl⟩)
    | (go_at_call 8; refine (vowel_any _ _).mono ?_; rintro e w' ⟨rfl, rfl⟩)
    | go_in)
  go_ret
  exact ⟨rfl, Grown.refl _⟩

theorem noun_any (k : Int) (w : World) : Calls Try.prog 4 #[.int .i64 k] w fun e w' => e = .returned (.bool true) ∧ Grown w w' := by
  by_cases h0 : k = 0
  · subst h0; exact noun_null w
  by_cases h1 : k = 1
  · subst h1; exact noun_bool w
  by_cases h3 : k = 3
  · subst h3; exact noun_string w
  by_cases h4 : k = 4
  · subst h4; exact noun_array w
  by_cases h5 : k = 5
  · subst h5; exact noun_object w
  exact noun_other k w (beq_eq_false_iff_ne.2 h0) (beq_eq_false_iff_ne.2 h1) (beq_eq_false_iff_ne.2 h3) (beq_eq_false_iff_ne.2 h4) (beq_eq_false_iff_ne.2 h5)

end Go.Proofs.Qxb6627509a
