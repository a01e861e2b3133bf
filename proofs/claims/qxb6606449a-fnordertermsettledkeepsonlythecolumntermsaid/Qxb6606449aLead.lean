/- The walk of FnOrderTermNullnessLeadsUnplacedTerm. -/
import Derived.Test.Qxb6606449aTerm
namespace Go.Proofs.Qxb6606449a
open Go.RowKit
set_option linter.unusedVariables false

theorem bytes8 (a0 a1 : ByteArray) (a2 a3 a4 : Bool) (a5 : Int) (a6 a7 : ByteArray) (a8 : Bool) (w : World) :
    Calls Try.prog 8 #[.string a0, .string a1, .bool a2, .bool a3, .bool a4, .int .u8 a5, .string a6, .string a7, .bool a8] w fun e w' => ∃ b : Bool, e = .returned (.bool b) ∧ w' = w := by
  go_enter Try.func8, Try.ntmps8
  go_wp2
  all_goals
    go_ret
    exact ⟨_, rfl, rfl⟩

theorem lead_small (a0 a1 : ByteArray) (a2 a3 a4 : Bool) (a5 : Int) (a6 a7 : ByteArray) (a8 : Bool) (w : World) (h : 65536 < a0.size ∨ 65536 < a1.size ∨ 65536 < a6.size ∨ 65536 < a7.size ∨ a5 < 2 ∨ (a8 = true ∧ a7.toList.isEmpty = true)) :
    Calls Try.prog 4 #[.string a0, .string a1, .bool a2, .bool a3, .bool a4, .int .u8 a5, .string a6, .string a7, .bool a8] w fun e w' => e = .returned (.bool true) ∧ Grown w w' := by
  go_enter Try.func4, Try.ntmps4
  go_wp2_with fail
  refine (bytes8 _ _ _ _ _ _ _ _ _ _).mono ?_
  rintro e w' ⟨b, rfl, rfl⟩
  cases b
  · go_wp2
    go_ret
    exact ⟨rfl, Grown.refl _⟩
  · have H : Hid (65536 < a0.size ∨ 65536 < a1.size ∨ 65536 < a6.size ∨ 65536 < a7.size ∨ a5 < 2 ∨ (a8 = true ∧ a7.toList.isEmpty = true)) := h
    clear h
    by_cases h0 : (65536 : Int) < (a0.size : Int)
    · go_wp2
      go_ret
      exact ⟨rfl, Grown.refl _⟩
    by_cases h1 : (65536 : Int) < (a1.size : Int)
    · go_wp2
      go_ret
      exact ⟨rfl, Grown.refl _⟩
    by_cases h2 : (65536 : Int) < (a6.size : Int)
    · go_wp2
      go_ret
      exact ⟨rfl, Grown.refl _⟩
    by_cases h3 : (65536 : Int) < (a7.size : Int)
    · go_wp2
      go_ret
      exact ⟨rfl, Grown.refl _⟩
    by_cases h4 : a5 < 2
    · go_wp2
      go_ret
      exact ⟨rfl, Grown.refl _⟩
    have h5 : a8 = true ∧ a7.toList.isEmpty = true := by
      rcases H.out with h | h | h | h | h | h
      · omega
      · omega
      · omega
      · omega
      · omega
      · exact h
    obtain ⟨rfl, h6⟩ := h5
    go_wp2
    go_ret
    exact ⟨rfl, Grown.refl _⟩

theorem term_size (c : ByteArray) (d : Bool) (h : c.size ≤ 100000) : (term c d).size ≤ 100005 := by
  cases d
  · rw [term_false, ByteArray.size_append]
    have : (ByteArray.mk #[32, 65, 83, 67]).size = 4 := rfl
    omega
  · rw [term_true, ByteArray.size_append]
    have : (ByteArray.mk #[32, 68, 69, 83, 67]).size = 5 := rfl
    omega

theorem led_eq (l t : ByteArray) (nf : Bool) : led l t nf = term l nf ++ ⟨#[44, 32]⟩ ++ t := by
  cases nf <;> simp only [led, term, Bool.false_eq_true, if_true, if_false] <;> congr 1 <;> rw [ByteArray.append_assoc] <;> rfl

theorem led_beq (l t : ByteArray) (nf : Bool) : ((led l t nf).toList == (term l nf ++ ⟨#[44, 32]⟩ ++ t).toList) = true := by
  rw [led_eq]; simp

set_option maxHeartbeats 400000 in
theorem lead_empty (a0 a1 : ByteArray) (a2 a3 a4 : Bool) (a5 : Int) (a6 a7 : ByteArray) (w : World) (h0 : a0.size ≤ 65536) (h1 : a1.size ≤ 65536) (h6 : a6.size ≤ 65536) (h7 : a7.size ≤ 65536) (h5 : 2 ≤ a5) (he : a7.toList.isEmpty = true) :
    Calls Try.prog 4 #[.string a0, .string a1, .bool a2, .bool a3, .bool a4, .int .u8 a5, .string a6, .string a7, .bool false] w fun e w' => e = .returned (.bool true) ∧ Grown w w' := by
  go_enter Try.func4, Try.ntmps4
  go_wp2_with fail
  refine (bytes8 _ _ _ _ _ _ _ _ _ _).mono ?_
  rintro e w' ⟨b, rfl, rfl⟩
  cases b
  · go_wp2
    go_ret
    exact ⟨rfl, Grown.refl _⟩
  · go_wp2_with fail
    refine (ot_open_empty _ _ _ _ _ _ _ _ _ (by omega) h5 he).mono ?_
    rintro e w1 ⟨rfl, g1⟩
    go_wp2_with fail
    refine (ot_unplaced _ _ _ _ _ _ _ _ _ ?_).mono ?_
    · rw [ByteArray.size_append]; have : (ByteArray.mk #[32, 73, 83, 32, 78, 85, 76, 76]).size = 8 := rfl; omega
    rintro e w2 ⟨rfl, g2⟩
    go_wp2_with fail
    refine (ot_unplaced _ _ _ _ _ _ _ _ _ (by omega)).mono ?_
    rintro e w3 ⟨rfl, g3⟩
    have t1 := term_size a1 a2 (by omega)
    have t2 := term_size (a1 ++ ⟨#[32, 73, 83, 32, 78, 85, 76, 76]⟩) a3 (by rw [ByteArray.size_append]; have : (ByteArray.mk #[32, 73, 83, 32, 78, 85, 76, 76]).size = 8 := rfl; omega)
    go_wp2
    go_ret
    exact ⟨by rw [led_beq]; rfl, grown_trans (grown_trans g1 g2) g3⟩

set_option maxHeartbeats 400000 in
theorem lead_flag (a0 a1 : ByteArray) (a2 a3 a4 : Bool) (a5 : Int) (a6 a7 : ByteArray) (a8 : Bool) (w : World) (h0 : a0.size ≤ 65536) (h1 : a1.size ≤ 65536) (h6 : a6.size ≤ 65536) (h7 : a7.size ≤ 65536) (h5 : 2 ≤ a5) (he : a7.toList.isEmpty = false) :
    Calls Try.prog 4 #[.string a0, .string a1, .bool a2, .bool a3, .bool a4, .int .u8 a5, .string a6, .string a7, .bool a8] w fun e w' => e = .returned (.bool true) ∧ Grown w w' := by
  have t1 := term_size a1 a2 (by omega)
  have t2 := term_size a7 a3 (by omega)
  cases a8
  all_goals
    go_enter Try.func4, Try.ntmps4
    go_wp2_with fail
    refine (bytes8 _ _ _ _ _ _ _ _ _ _).mono ?_
    rintro e w' ⟨b, rfl, rfl⟩
    cases b
    · go_wp2
      go_ret
      exact ⟨rfl, Grown.refl _⟩
    · go_wp2_with fail
      refine (ot_flag _ _ _ _ _ _ _ _ _ _ (by omega) (by omega) h5 he).mono ?_
      rintro e w1 ⟨rfl, g1⟩
      go_wp2_with fail
      refine (ot_unplaced _ _ _ _ _ _ _ _ _ (by omega)).mono ?_
      rintro e w2 ⟨rfl, g2⟩
      go_wp2_with fail
      refine (ot_unplaced _ _ _ _ _ _ _ _ _ (by omega)).mono ?_
      rintro e w3 ⟨rfl, g3⟩
      go_wp2
      go_ret
      exact ⟨by rw [led_beq]; rfl, grown_trans (grown_trans g1 g2) g3⟩
end Go.Proofs.Qxb6606449a
