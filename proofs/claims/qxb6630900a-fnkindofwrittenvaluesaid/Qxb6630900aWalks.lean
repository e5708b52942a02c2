/-
  THE SHARED WALKS: isSpace, zzIsWS, skipSpace, Kind, zzAllWS, zzIsValueKind, the two bounds.
-/
import Derived.Test.Qxb6630900aRows
import Derived.Test.Qxb6630900aPlain
import Derived.WalkKit
import Derived.WalkSpells
import Derived.Below
namespace Go.Proofs.Qxb6630900a
open Go.RowKit
set_option linter.unusedSimpArgs false
set_option linter.unusedVariables false

/-- What is known of a slice of bytes: 'zs' are its elements. -/
def Row (w : World) (a : Option Addr) (len : Nat) (zs : List Int) : Prop :=
  zs.length = len ∧ len ≤ 140737488355328 ∧ (len ≠ 0 → ∃ b off, a = some ⟨b, off, none⟩ ∧ ∀ j, j < len → w.cell? ⟨b, off + j, none⟩ = some (.int .u8 (zs.getD j 0)))

theorem ret_bool {a b : Bool} (h : a = b) : Ending.returned (.bool a) = .returned (.bool b) := by rw [h]
theorem ret_int {k : IntKind} {a b : Int} (h : a = b) : Ending.returned (.int k a) = .returned (.int k b) := by rw [h]
theorem ret_str {a b : ByteArray} (h : a = b) : Ending.returned (.string a) = .returned (.string b) := by rw [h]

theorem isSpace_any (c : Int) (w : World) : Calls Try.prog 14 #[.int .u8 c] w fun e w' => e = .returned (.bool (Pl.ws c)) ∧ w = w' := by
  go_enter Try.func14, Try.ntmps14
  go_wp2
  all_goals (go_ret; exact ⟨ret_bool (by simp [Pl.ws, *]), rfl⟩)

theorem isWS_any (c : Int) (w : World) : Calls Try.prog 12 #[.int .u8 c] w fun e w' => e = .returned (.bool (Pl.ws c)) ∧ w = w' := by
  go_enter Try.func12, Try.ntmps12
  go_wp2
  all_goals (go_ret; exact ⟨ret_bool (by simp [Pl.ws, *]), rfl⟩)

set_option maxHeartbeats 400000 in
theorem skipSpace_any (a : Option Addr) (len cap : Nat) (zs : List Int) (w : World) (h : Row w a len zs) :
    Calls Try.prog 11 #[.slice a len cap, .int .i64 0] w fun e w' => e = .returned (.int .i64 (Pl.spaces zs)) ∧ w = w' := by
  obtain ⟨hz, hm, hc⟩ := h
  go_enter Try.func11, Try.ntmps11
  go_wp2
  go_loop [1] (fun i => ∃ k : Nat, k ≤ len ∧ i = .int .i64 k ∧ Hid (∀ j, j < k → Pl.ws (zs[j]?.getD 0) = true)) (fun i => len - (intOf i).toNat)
  case atStart => exact ⟨0, Nat.zero_le _, rfl, fun j hj => by omega⟩
  case round =>
    obtain ⟨k, hk, rfl, hall⟩ := hrel
    by_cases hlt : k < len
    · obtain ⟨b, off, rfl, hcell⟩ := hc (by omega)
      have hck := hcell k hlt
      clear hcell hc
      obtain ⟨c, hcd⟩ : ∃ c, zs.getD k 0 = c := ⟨_, rfl⟩
      rw [hcd] at hck
      have HC : Hid (zs[k]?.getD 0 = c) := by rw [← hcd]; show _ = _; simp [List.getD]
      clear hcd
      by_cases hws : Pl.ws c = true
      · go_wp2_with (go_at_call 14; refine (isSpace_any _ _).mono ?_; rintro e w' ⟨rfl, rfl⟩)
        go_round
        case rel => exact ⟨k + 1, by omega, by go_num, fun j hj => by
          by_cases e : j = k
          · rw [e, HC.out]; exact hws
          · exact hall j (by omega)⟩
        case measure => simp [intOf]; omega
      · have hws' : Pl.ws c = false := by simpa using hws
        have HS : Hid (Pl.spaces zs = k) := Pl.spaces_eq zs k (by omega) hall (.inr (by rw [HC.out]; exact hws'))
        clear hws
        go_wp2_with (go_at_call 14; refine (isSpace_any _ _).mono ?_; rintro e w' ⟨rfl, rfl⟩)
        go_ret
        exact ⟨ret_int (by rw [HS.out]), rfl⟩
    · have HS : Hid (Pl.spaces zs = k) := Pl.spaces_eq zs k (by omega) hall (.inl (by omega))
      go_wp2_with (go_at_call 14; refine (isSpace_any _ _).mono ?_; rintro e w' ⟨rfl, rfl⟩)
      go_ret
      exact ⟨ret_int (by rw [HS.out]), rfl⟩

set_option maxHeartbeats 400000 in
theorem allWS_any (a : Option Addr) (len cap : Nat) (zs : List Int) (w : World) (h : Row w a len zs) :
    Calls Try.prog 7 #[.slice a len cap] w fun e w' => e = .returned (.bool (zs.all Pl.ws)) ∧ w = w' := by
  obtain ⟨hz, hm, hc⟩ := h
  go_enter Try.func7, Try.ntmps7
  go_wp2
  go_loop [3] (fun i => ∃ k : Nat, k ≤ len ∧ i = .int .i64 k ∧ Hid (∀ j, j < k → Pl.ws (zs[j]?.getD 0) = true)) (fun i => len - (intOf i).toNat)
  case atStart => exact ⟨0, Nat.zero_le _, rfl, fun j hj => by omega⟩
  case round =>
    obtain ⟨k, hk, rfl, hall⟩ := hrel
    by_cases hlt : k < len
    · obtain ⟨b, off, rfl, hcell⟩ := hc (by omega)
      have hck := hcell k hlt
      clear hcell hc
      obtain ⟨c, hcd⟩ : ∃ c, zs.getD k 0 = c := ⟨_, rfl⟩
      rw [hcd] at hck
      have HC : Hid (zs[k]?.getD 0 = c) := by rw [← hcd]; show _ = _; simp [List.getD]
      clear hcd
      by_cases hws : Pl.ws c = true
      · go_wp2_with (go_at_call 12; refine (isWS_any _ _).mono ?_; rintro e w' ⟨rfl, rfl⟩)
        go_round
        case rel => exact ⟨k + 1, by omega, by go_num, fun j hj => by
          by_cases e : j = k
          · rw [e, HC.out]; exact hws
          · exact hall j (by omega)⟩
        case measure => simp [intOf]; omega
      · have hws' : Pl.ws c = false := by simpa using hws
        have HS : Hid (zs.all Pl.ws = false) := by
          have := Pl.spaces_eq zs k (by omega) hall (.inr (by rw [HC.out]; exact hws'))
          show zs.all Pl.ws = false
          rw [Pl.all_iff]; simp; omega
        clear hws
        go_wp2_with (go_at_call 12; refine (isWS_any _ _).mono ?_; rintro e w' ⟨rfl, rfl⟩)
        go_ret
        exact ⟨ret_bool (by rw [HS.out]), rfl⟩
    · have HS : Hid (zs.all Pl.ws = true) := by
        have := Pl.spaces_eq zs k (by omega) hall (.inl (by omega))
        show zs.all Pl.ws = true
        rw [Pl.all_iff]; simp; omega
      go_wp2_with (go_at_call 12; refine (isWS_any _ _).mono ?_; rintro e w' ⟨rfl, rfl⟩)
      go_ret
      exact ⟨ret_bool (by rw [HS.out]), rfl⟩

set_option maxHeartbeats 400000 in
theorem kind_any (a : Option Addr) (len cap : Nat) (zs : List Int) (w : World) (h : Row w a len zs) :
    Calls Try.prog 6 #[.slice a len cap] w fun e w' => e = .returned (.string (Pl.kindOf zs)) ∧ w = w' := by
  have hle := Pl.spaces_le zs
  have H := h
  obtain ⟨hz, hm, hc⟩ := h
  by_cases hlt : Pl.spaces zs < len
  · have HK : Hid (Pl.kindOf zs = Pl.nameOf (zs[Pl.spaces zs]?.getD 0)) := Pl.kind_at zs (by omega)
    obtain ⟨b, off, rfl, hcell⟩ := hc (by omega)
    have hck := hcell (Pl.spaces zs) hlt
    obtain ⟨c, hcd⟩ : ∃ c, zs.getD (Pl.spaces zs) 0 = c := ⟨_, rfl⟩
    rw [hcd] at hck
    have HC : Hid (Pl.kindOf zs = Pl.nameOf c) := by
      show _ = _
      rw [HK.out, ← hcd]; simp [List.getD]
    clear hcd HK hcell hc
    have cs := skipSpace_any (some ⟨b, off, none⟩) len cap zs w H
    obtain ⟨k, hk⟩ : ∃ k, Pl.spaces zs = k := ⟨_, rfl⟩
    rw [hk] at hck hlt cs
    clear H hk hle hz
    have CS := id cs
    clear cs
    have hne : ((k : Int) == (len : Int)) = false := by simp; omega
    go_enter Try.func6, Try.ntmps6
    go_wp2_with (go_at_call 11; refine CS.mono ?_; rintro e w' ⟨rfl, rfl⟩)
    all_goals (go_ret; exact ⟨ret_str (by rw [HC.out]; simp only [Pl.nameOf, *, ↓reduceIte]; try rfl), rfl⟩)
  · have HK : Hid (Pl.kindOf zs = ⟨#[110, 111, 116, 104, 105, 110, 103]⟩) := Pl.kind_nothing zs (by omega)
    have cs := skipSpace_any a len cap zs w H
    have hk : Pl.spaces zs = len := by omega
    rw [hk] at cs
    clear H hk hle hz hc
    go_enter Try.func6, Try.ntmps6
    go_wp2_with (go_at_call 11; refine cs.mono ?_; rintro e w' ⟨rfl, rfl⟩)
    go_ret
    exact ⟨ret_str (by rw [HK.out]), rfl⟩

end Go.Proofs.Qxb6630900a
