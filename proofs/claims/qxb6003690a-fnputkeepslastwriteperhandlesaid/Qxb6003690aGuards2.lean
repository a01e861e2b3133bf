/- The guards of the two laws over put. -/
import Derived.Test.Qxb6003690aGuards
namespace Go.Proofs.Qxb6003690a
open Go.RowKit Go.Deep
set_option linter.unusedVariables false

set_option maxHeartbeats 800000 in
theorem bytes21 (a : Option Addr) (len cap : Nat) (c : Nat → ByteArray) (a1 : Option Addr) (len1 cap1 : Nat) (w : World) (hs : Strs w a len c) (hm : len ≤ maxLen) (hm1 : len1 ≤ maxLen) :
    Calls Try.prog 21 #[.slice a len cap, .slice a1 len1 cap1] w fun e w' => Tells True w e w' := by
  unfold maxLen at hm hm1
  rcases hs with rfl | ⟨b, off, rfl, hc⟩
  · go_enter Try.func21, Try.ntmps21
    go_wp2
    refine wp_loop_rounds 1 ?_
    rw [rounds_succ]
    go_wp2
    all_goals
      go_ret
      first | exact tell true (fun _ => trivial) | exact tell false (fun _ => trivial)
  · by_cases hl : (1048576 : Int) < (len : Int)
    · go_enter Try.func21, Try.ntmps21
      go_wp2
      go_ret
      first | exact tell true (fun _ => trivial) | exact tell false (fun _ => trivial)
    · go_enter Try.func21, Try.ntmps21
      go_wp2
      go_loop [5, 6] (fun n i => ∃ (k : Nat) (m : Int), k ≤ len ∧ i = .int .i64 k ∧ n = .int .i64 m) (fun _ i => len - (intOf i).toNat)
      case atStart => exact ⟨0, _, Nat.zero_le _, rfl, rfl⟩
      case round =>
        obtain ⟨k, m, hk, rfl, rfl⟩ := hrel
        by_cases hlt : k < len
        · have hck := hc k hlt
          go_wp2
          all_goals first
            | (go_ret; (first | exact tell true (fun _ => trivial) | exact tell false (fun _ => trivial)))
            | (go_round; (case rel => exact ⟨k + 1, _, by omega, by go_num, rfl⟩); (case measure => simp [intOf]; omega))
        · go_wp2
          all_goals
            go_ret
            first | exact tell true (fun _ => trivial) | exact tell false (fun _ => trivial)

set_option maxHeartbeats 800000 in
theorem fit22 (a : Option Addr) (len cap : Nat) (c : Nat → ByteArray) (a1 : Option Addr) (len1 cap1 : Nat) (w : World) (hs : Strs w a len c) (hm : len ≤ maxLen) (hm1 : len1 ≤ maxLen) :
    Calls Try.prog 22 #[.slice a len cap, .slice a1 len1 cap1] w fun e w' => Tells (len ≤ 65536 ∧ len1 ≤ 65536) w e w' := by
  unfold maxLen at hm hm1
  by_cases hl : (65536 : Int) < (len : Int)
  · go_enter Try.func22, Try.ntmps22
    go_wp2
    go_ret
    exact tell false (fun h => by cases h)
  by_cases hl1 : (65536 : Int) < (len1 : Int)
  · go_enter Try.func22, Try.ntmps22
    go_wp2
    go_ret
    exact tell false (fun h => by cases h)
  rcases hs with rfl | ⟨b, off, rfl, hc⟩
  · go_enter Try.func22, Try.ntmps22
    go_wp2
    refine wp_loop_rounds 1 ?_
    rw [rounds_succ]
    go_wp2
    go_ret
    exact tell true (fun _ => ⟨by omega, by omega⟩)
  · go_enter Try.func22, Try.ntmps22
    go_wp2
    go_loop [5, 6] (fun n i => ∃ (k : Nat) (m : Int), k ≤ len ∧ i = .int .i64 k ∧ n = .int .i64 m) (fun _ i => len - (intOf i).toNat)
    case atStart => exact ⟨0, _, Nat.zero_le _, rfl, rfl⟩
    case round =>
      obtain ⟨k, m, hk, rfl, rfl⟩ := hrel
      by_cases hlt : k < len
      · have hck := hc k hlt
        go_wp2
        all_goals first
          | (go_ret; (first | exact tell true (fun _ => ⟨by omega, by omega⟩) | exact tell false (fun _ => ⟨by omega, by omega⟩)))
          | (go_round; (case rel => exact ⟨k + 1, _, by omega, by go_num, rfl⟩); (case measure => simp [intOf]; omega))
      · go_wp2
        go_ret
        exact tell true (fun _ => ⟨by omega, by omega⟩)

set_option maxHeartbeats 800000 in
theorem bytes14 (a : Option Addr) (len cap : Nat) (c : Nat → ByteArray) (a1 : Option Addr) (len1 cap1 : Nat) (w : World) (hs : Strs w a len c) (hm : len ≤ maxLen) (hm1 : len1 ≤ maxLen) :
    Calls Try.prog 14 #[.slice a1 len1 cap1, .slice a len cap] w fun e w' => Tells True w e w' := by
  unfold maxLen at hm hm1
  by_cases hl1 : (1048576 : Int) < (len1 : Int)
  · go_enter Try.func14, Try.ntmps14
    go_wp2
    go_ret
    first | exact tell true (fun _ => trivial) | exact tell false (fun _ => trivial)
  by_cases hl : (1048576 : Int) < (len : Int)
  · go_enter Try.func14, Try.ntmps14
    go_wp2
    go_ret
    first | exact tell true (fun _ => trivial) | exact tell false (fun _ => trivial)
  by_cases hl2 : (1048576 : Int) < (len1 : Int) + (len : Int)
  · go_enter Try.func14, Try.ntmps14
    go_wp2
    go_ret
    first | exact tell true (fun _ => trivial) | exact tell false (fun _ => trivial)
  rcases hs with rfl | ⟨b, off, rfl, hc⟩
  · go_enter Try.func14, Try.ntmps14
    go_wp2
    refine wp_loop_rounds 1 ?_
    rw [rounds_succ]
    go_wp2
    go_ret
    first | exact tell true (fun _ => trivial) | exact tell false (fun _ => trivial)
  · go_enter Try.func14, Try.ntmps14
    go_wp2
    go_loop [5, 6] (fun n i => ∃ (k : Nat) (m : Int), k ≤ len ∧ i = .int .i64 k ∧ n = .int .i64 m) (fun _ i => len - (intOf i).toNat)
    case atStart => exact ⟨0, _, Nat.zero_le _, rfl, rfl⟩
    case round =>
      obtain ⟨k, m, hk, rfl, rfl⟩ := hrel
      by_cases hlt : k < len
      · have hck := hc k hlt
        go_wp2
        all_goals first
          | (go_ret; (first | exact tell true (fun _ => trivial) | exact tell false (fun _ => trivial)))
          | (go_round; (case rel => exact ⟨k + 1, _, by omega, by go_num, rfl⟩); (case measure => simp [intOf]; omega))
      · go_wp2
        go_ret
        first | exact tell true (fun _ => trivial) | exact tell false (fun _ => trivial)
end Go.Proofs.Qxb6003690a
