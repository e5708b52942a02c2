/-
  The bounds: zzBytes (5, 10).
-/
import Derived.Test.Qxb6627411aChunks
namespace Go.Proofs.Qxb6627411a
open Go.RowKit
set_option linter.unusedSimpArgs false
set_option linter.unusedVariables false

set_option maxHeartbeats 800000 in
theorem bytes10_any (ao : Option Addr) (len cap : Nat) (zs : List Nd) (w : World) (hZ : ZRow w ao len zs) (hm : len ≤ maxLen) :
    Calls Try.prog 10 #[.slice ao len cap] w (Says (len ≤ 1048576) w) := by
  unfold maxLen at hm
  have HZ : Hid (ZRow w ao len zs) := hZ
  clear hZ
  by_cases hbig : len ≤ 1048576
  · go_enter Try.func10, Try.ntmps10
    go_wp2
    go_loop [3, 4] (fun n i => ∃ (x : Int) (k : Nat), n = .int .i64 x ∧ i = .int .i64 k ∧ k ≤ len) (fun _ i => len - (intOf i).toNat)
    case atStart => exact ⟨_, 0, rfl, rfl, by omega⟩
    case round =>
      obtain ⟨x, k, rfl, rfl, hk⟩ := hrel
      by_cases hlt : k < len
      · obtain ⟨b, off, rfl, nd, hnd, c1, c2, c3, c4, c5⟩ := HZ.out.at k hlt
        clear hnd c1 c3 c4 c5
        go_wp2
        all_goals first
          | (go_ret; exact ⟨false, rfl, by simp, rfl⟩)
          | (go_round
             case rel => exact ⟨_, k + 1, rfl, by go_num, by omega⟩
             case measure => simp [intOf]; omega)
      · go_wp2
        go_ret
        exact ⟨true, rfl, fun _ => by first | exact hbig | trivial, rfl⟩
  · go_enter Try.func10, Try.ntmps10
    go_wp2
    go_ret
    exact ⟨false, rfl, by simp, rfl⟩

set_option maxHeartbeats 1600000 in
theorem bytes5_any (ao bo : Option Addr) (la ca lb cb : Nat) (xs ys : List Nd) (w : World) (hA : ZRow w ao la xs) (hB : ZRow w bo lb ys) (hma : la ≤ maxLen) (hmb : lb ≤ maxLen) :
    Calls Try.prog 5 #[.slice ao la ca, .slice bo lb cb] w (Says (la ≤ 1048576 ∧ lb ≤ 1048576) w) := by
  unfold maxLen at hma hmb
  have HA : Hid (ZRow w ao la xs) := hA
  have HB : Hid (ZRow w bo lb ys) := hB
  clear hA hB
  by_cases hbig : la ≤ 1048576
  · go_enter Try.func5, Try.ntmps5
    go_wp2
    go_loop [5, 6] (fun n i => ∃ (x : Int) (k : Nat), n = .int .i64 x ∧ i = .int .i64 k ∧ k ≤ la) (fun _ i => la - (intOf i).toNat)
    case atStart => exact ⟨_, 0, rfl, rfl, by omega⟩
    case round =>
      obtain ⟨x, k, rfl, rfl, hk⟩ := hrel
      by_cases hlt : k < la
      · obtain ⟨b, off, rfl, nd, hnd, c1, c2, c3, c4, c5⟩ := HA.out.at k hlt
        clear hnd c1 c3 c4 c5
        go_wp2
        all_goals first
          | (go_ret; exact ⟨false, rfl, by simp, rfl⟩)
          | (go_round
             case rel => exact ⟨_, k + 1, rfl, by go_num, by omega⟩
             case measure => simp [intOf]; omega)
      · by_cases hbig2 : lb ≤ 1048576
        · go_wp2
          · go_ret
            exact ⟨false, rfl, by simp, rfl⟩
          · go_loop [5, 7] (fun n i => ∃ (x : Int) (k : Nat), n = .int .i64 x ∧ i = .int .i64 k ∧ k ≤ lb) (fun _ i => lb - (intOf i).toNat)
            case atStart => exact ⟨_, 0, rfl, rfl, by omega⟩
            case round =>
              obtain ⟨x, k, rfl, rfl, hk⟩ := hrel
              by_cases hlt : k < lb
              · obtain ⟨b, off, rfl, nd, hnd, c1, c2, c3, c4, c5⟩ := HB.out.at k hlt
                clear hnd c1 c3 c4 c5
                go_wp2
                all_goals first
                  | (go_ret; exact ⟨false, rfl, by simp, rfl⟩)
                  | (go_round
                     case rel => exact ⟨_, k + 1, rfl, by go_num, by omega⟩
                     case measure => simp [intOf]; omega)
              · go_wp2
                go_ret
                exact ⟨true, rfl, fun _ => by first | exact ⟨hbig, hbig2⟩ | trivial | exact ⟨trivial, trivial⟩, rfl⟩
        · go_wp2
          go_ret
          exact ⟨false, rfl, by simp, rfl⟩
  · go_enter Try.func5, Try.ntmps5
    go_wp2
    go_ret
    exact ⟨false, rfl, by simp, rfl⟩

end Go.Proofs.Qxb6627411a
