/- The guards over strings. -/
import Derived.Test.Qxb6003690aStrs
namespace Go.Proofs.Qxb6003690a
open Go.RowKit Go.Deep
set_option linter.unusedVariables false

/-- a slice of strings, as the walks are told of it -/
def Strs (w : World) (a : Option Addr) (len : Nat) (c : Nat → ByteArray) : Prop := len = 0 ∨ ∃ b off, a = some ⟨b, off, none⟩ ∧ ∀ j, j < len → w.cell? ⟨b, off + j, none⟩ = some (.string (c j))

/-- it answers some bool and turns nothing; where it says true, p holds -/
def Tells (p : Prop) (w : World) (e : Ending) (w' : World) : Prop := ∃ b : Bool, e = .returned (.bool b) ∧ w' = w ∧ (b = true → p)
theorem tell {p : Prop} {w : World} (b : Bool) (h : b = true → p) : Tells p w (.returned (.bool b)) w := ⟨b, rfl, rfl, h⟩

set_option maxHeartbeats 400000 in
theorem bytes17 (a : Option Addr) (len cap : Nat) (c : Nat → ByteArray) (w : World) (hs : Strs w a len c) (hm : len ≤ maxLen) :
    Calls Try.prog 17 #[.slice a len cap] w fun e w' => Tells True w e w' := by
  unfold maxLen at hm
  rcases hs with rfl | ⟨b, off, rfl, hc⟩
  · go_enter Try.func17, Try.ntmps17
    go_wp2
    refine wp_loop_rounds 1 ?_
    rw [rounds_succ]
    go_wp2
    go_ret
    first | exact tell true (fun _ => trivial) | exact tell false (fun _ => trivial)
  · by_cases hl : (1048576 : Int) < (len : Int)
    · go_enter Try.func17, Try.ntmps17
      go_wp2
      go_ret
      first | exact tell true (fun _ => trivial) | exact tell false (fun _ => trivial)
    · go_enter Try.func17, Try.ntmps17
      go_wp2
      go_loop [3, 4] (fun n i => ∃ (k : Nat) (m : Int), k ≤ len ∧ i = .int .i64 k ∧ n = .int .i64 m) (fun _ i => len - (intOf i).toNat)
      case atStart => exact ⟨0, _, Nat.zero_le _, rfl, rfl⟩
      case round =>
        obtain ⟨k, m, hk, rfl, rfl⟩ := hrel
        by_cases hlt : k < len
        · have hck := hc k hlt
          go_wp2
          all_goals first
            | (go_ret; (first | exact tell true (fun _ => trivial) | exact tell false (fun _ => trivial)))
            | (go_round; (case rel => exact ⟨k + 1, _, by omega, by go_num, rfl⟩); (case measure => simp [intOf]; omega))
        · go_wp2
          go_ret
          first | exact tell true (fun _ => trivial) | exact tell false (fun _ => trivial)

set_option maxHeartbeats 400000 in
theorem fit18 (a : Option Addr) (len cap : Nat) (c : Nat → ByteArray) (w : World) (hs : Strs w a len c) (hm : len ≤ maxLen) :
    Calls Try.prog 18 #[.slice a len cap] w fun e w' => Tells (len ≤ 65536) w e w' := by
  unfold maxLen at hm
  rcases hs with rfl | ⟨b, off, rfl, hc⟩
  · go_enter Try.func18, Try.ntmps18
    go_wp2
    refine wp_loop_rounds 1 ?_
    rw [rounds_succ]
    go_wp2
    go_ret
    first | exact tell true (fun _ => by omega) | exact tell false (fun _ => by omega)
  · by_cases hl : (65536 : Int) < (len : Int)
    · go_enter Try.func18, Try.ntmps18
      go_wp2
      go_ret
      exact tell false (fun h => by cases h)
    · go_enter Try.func18, Try.ntmps18
      go_wp2
      go_loop [3, 4] (fun n i => ∃ (k : Nat) (m : Int), k ≤ len ∧ i = .int .i64 k ∧ n = .int .i64 m) (fun _ i => len - (intOf i).toNat)
      case atStart => exact ⟨0, _, Nat.zero_le _, rfl, rfl⟩
      case round =>
        obtain ⟨k, m, hk, rfl, rfl⟩ := hrel
        by_cases hlt : k < len
        · have hck := hc k hlt
          go_wp2
          all_goals first
            | (go_ret; (first | exact tell true (fun _ => by omega) | exact tell false (fun _ => by omega)))
            | (go_round; (case rel => exact ⟨k + 1, _, by omega, by go_num, rfl⟩); (case measure => simp [intOf]; omega))
        · go_wp2
          go_ret
          first | exact tell true (fun _ => by omega) | exact tell false (fun _ => by omega)
end Go.Proofs.Qxb6003690a
