/- The walk of FnOrderTermSettledKeepsOnlyTheColumnTerm. -/
import Derived.Test.Qxb6606449aLead
import Derived.Test.Qxb6606449aSuffix
namespace Go.Proofs.Qxb6606449a
open Go.RowKit
set_option linter.unusedVariables false

theorem bytes9 (a0 a1 : ByteArray) (a2 a3 a4 : Bool) (a5 : Int) (a6 a7 : ByteArray) (w : World) :
    Calls Try.prog 9 #[.string a0, .string a1, .bool a2, .bool a3, .bool a4, .int .u8 a5, .string a6, .string a7] w fun e w' => ∃ b : Bool, e = .returned (.bool b) ∧ w' = w := by
  go_enter Try.func9, Try.ntmps9
  go_wp2
  all_goals
    go_ret
    exact ⟨_, rfl, rfl⟩

theorem settled_small (a0 a1 : ByteArray) (a2 a3 a4 : Bool) (a5 : Int) (a6 a7 : ByteArray) (w : World) (h : 65536 < a0.size ∨ 65536 < a1.size ∨ 65536 < a6.size ∨ 65536 < a7.size) :
    Calls Try.prog 5 #[.string a0, .string a1, .bool a2, .bool a3, .bool a4, .int .u8 a5, .string a6, .string a7] w fun e w' => e = .returned (.bool true) ∧ Grown w w' := by
  go_enter Try.func5, Try.ntmps5
  go_wp2_with fail
  refine (bytes9 _ _ _ _ _ _ _ _ _).mono ?_
  rintro e w' ⟨b, rfl, rfl⟩
  cases b
  · go_wp2
    go_ret
    exact ⟨rfl, Grown.refl _⟩
  · have H : Hid (65536 < a0.size ∨ 65536 < a1.size ∨ 65536 < a6.size ∨ 65536 < a7.size) := h
    clear h
    by_cases h0 : (65536 : Int) < (a0.size : Int)
    · go_wp2
      go_ret
      exact ⟨rfl, Grown.refl _⟩
    by_cases h1 : (65536 : Int) < (a1.size : Int)
    · go_wp2
      go_ret
      exact ⟨rfl, Grown.refl _⟩
    by_cases h2 : (65536 : Int) < (a6.size : Int)
    · go_wp2
      go_ret
      exact ⟨rfl, Grown.refl _⟩
    have h3 : (65536 : Int) < (a7.size : Int) := by
      rcases H.out with h | h | h | h <;> omega
    go_wp2
    go_ret
    exact ⟨rfl, Grown.refl _⟩

theorem same_beq (s : ByteArray) : (s.toList == s.toList) = true := by simp

set_option maxHeartbeats 400000 in
theorem settled_zero (a0 a1 : ByteArray) (a2 a3 a4 : Bool) (a6 a7 : ByteArray) (w : World) (h0 : a0.size ≤ 65536) (h1 : a1.size ≤ 65536) (h6 : a6.size ≤ 65536) (h7 : a7.size ≤ 65536) :
    Calls Try.prog 5 #[.string a0, .string a1, .bool a2, .bool a3, .bool a4, .int .u8 0, .string a6, .string a7] w fun e w' => e = .returned (.bool true) ∧ Grown w w' := by
  go_enter Try.func5, Try.ntmps5
  go_wp2_with fail
  refine (bytes9 _ _ _ _ _ _ _ _ _).mono ?_
  rintro e w' ⟨b, rfl, rfl⟩
  cases b
  · go_wp2
    go_ret
    exact ⟨rfl, Grown.refl _⟩
  · go_wp2_with fail
    refine (ot_unplaced _ _ _ _ _ _ _ _ _ (by omega)).mono ?_
    rintro e w1 ⟨rfl, g1⟩
    go_wp2_with fail
    refine (ot_unplaced _ _ _ _ _ _ _ _ _ (by omega)).mono ?_
    rintro e w2 ⟨rfl, g2⟩
    go_wp2
    go_ret
    exact ⟨by first | rfl | (rw [same_beq]; rfl), grown_trans g1 g2⟩

set_option maxHeartbeats 400000 in
theorem settled_one (a0 a1 : ByteArray) (a2 a3 a4 : Bool) (a6 a7 : ByteArray) (w : World) (h0 : a0.size ≤ 65536) (h1 : a1.size ≤ 65536) (h6 : a6.size ≤ 65536) (h7 : a7.size ≤ 65536) :
    Calls Try.prog 5 #[.string a0, .string a1, .bool a2, .bool a3, .bool a4, .int .u8 1, .string a6, .string a7] w fun e w' => e = .returned (.bool true) ∧ Grown w w' := by
  go_enter Try.func5, Try.ntmps5
  go_wp2_with fail
  refine (bytes9 _ _ _ _ _ _ _ _ _).mono ?_
  rintro e w' ⟨b, rfl, rfl⟩
  cases b
  · go_wp2
    go_ret
    exact ⟨rfl, Grown.refl _⟩
  · go_wp2_with fail
    refine (ot_clause _ _ _ _ _ _ _ _ _ (by omega)).mono ?_
    rintro e w1 ⟨rfl, g1⟩
    go_wp2_with fail
    refine (ot_clause _ _ _ _ _ _ _ _ _ (by omega)).mono ?_
    rintro e w2 ⟨rfl, g2⟩
    go_wp2
    go_ret
    exact ⟨by first | rfl | (rw [same_beq]; rfl), grown_trans g1 g2⟩

set_option maxHeartbeats 400000 in
theorem settled_flag (a0 a1 : ByteArray) (a2 a3 a4 : Bool) (a5 : Int) (a6 a7 : ByteArray) (w : World) (h0 : a0.size ≤ 65536) (h1 : a1.size ≤ 65536) (h6 : a6.size ≤ 65536) (h7 : a7.size ≤ 65536) (h5 : 2 ≤ a5) (he : a7.toList.isEmpty = false) :
    Calls Try.prog 5 #[.string a0, .string a1, .bool a2, .bool a3, .bool a4, .int .u8 a5, .string a6, .string a7] w fun e w' => e = .returned (.bool true) ∧ Grown w w' := by
  go_enter Try.func5, Try.ntmps5
  go_wp2_with fail
  refine (bytes9 _ _ _ _ _ _ _ _ _).mono ?_
  rintro e w' ⟨b, rfl, rfl⟩
  cases b
  · go_wp2
    go_ret
    exact ⟨rfl, Grown.refl _⟩
  · go_wp2_with fail
    refine (ot_flag _ _ _ _ _ _ _ _ _ _ (by omega) (by omega) h5 he).mono ?_
    rintro e w1 ⟨rfl, g1⟩
    go_wp2_with fail
    refine (ot_flag _ _ _ _ _ _ _ _ _ _ (by omega) (by omega) h5 he).mono ?_
    rintro e w2 ⟨rfl, g2⟩
    go_wp2
    go_ret
    exact ⟨by first | rfl | (rw [same_beq]; rfl), grown_trans g1 g2⟩

/-- the led term: a head of at least one byte, then t -/
theorem led_parts (l t : ByteArray) (nf : Bool) (hl : l.size ≤ 100000) : ∃ x : ByteArray, led l t nf = x ++ t ∧ 0 < x.size ∧ x.size ≤ 100007 := by
  cases nf
  · refine ⟨l ++ ⟨#[32, 65, 83, 67, 44, 32]⟩, rfl, ?_, ?_⟩ <;> rw [ByteArray.size_append] <;> have : (ByteArray.mk #[32, 65, 83, 67, 44, 32]).size = 6 := rfl <;> omega
  · refine ⟨l ++ ⟨#[32, 68, 69, 83, 67, 44, 32]⟩, rfl, ?_, ?_⟩ <;> rw [ByteArray.size_append] <;> have : (ByteArray.mk #[32, 68, 69, 83, 67, 44, 32]).size = 7 := rfl <;> omega

theorem suffix_of (x t : ByteArray) (w : World) (hx : x.size ≤ 100007) (ht : t.size ≤ 100005) :
    Calls Try.prog 10 #[.string (x ++ t), .string t] w fun e w' => e = .returned (.bool true) ∧ Grown w w' := by
  refine suffix_any (x ++ t) t x.size w ?_ ?_ ?_
  · rw [ByteArray.size_append]; omega
  · rw [ByteArray.size_append]
  · intro k h1 h2
    rw [ByteArray.getElem_append_right (by omega)]
    congr 1
    omega

set_option maxHeartbeats 800000 in
theorem settled_empty (a0 a1 : ByteArray) (a2 a3 a4 : Bool) (a5 : Int) (a6 a7 : ByteArray) (w : World) (h0 : a0.size ≤ 65536) (h1 : a1.size ≤ 65536) (h6 : a6.size ≤ 65536) (h7 : a7.size ≤ 65536) (h5 : 2 ≤ a5) (he : a7.toList.isEmpty = true) :
    Calls Try.prog 5 #[.string a0, .string a1, .bool a2, .bool a3, .bool a4, .int .u8 a5, .string a6, .string a7] w fun e w' => e = .returned (.bool true) ∧ Grown w w' := by
  have t1 := term_size a1 a2 (by omega)
  obtain ⟨x, hx, hx0, hx1⟩ := led_parts (a1 ++ ⟨#[32, 73, 83, 32, 78, 85, 76, 76]⟩) (term a1 a2) a3 (by rw [ByteArray.size_append]; have : (ByteArray.mk #[32, 73, 83, 32, 78, 85, 76, 76]).size = 8 := rfl; omega)
  have HX : Hid (led (a1 ++ ⟨#[32, 73, 83, 32, 78, 85, 76, 76]⟩) (term a1 a2) a3 = x ++ term a1 a2) := hx
  clear hx
  go_enter Try.func5, Try.ntmps5
  go_wp2_with fail
  refine (bytes9 _ _ _ _ _ _ _ _ _).mono ?_
  rintro e w' ⟨b, rfl, rfl⟩
  cases b
  · go_wp2
    go_ret
    exact ⟨rfl, Grown.refl _⟩
  · go_wp2_with fail
    refine (ot_open_empty _ _ _ _ _ _ _ _ _ (by omega) h5 he).mono ?_
    rw [HX.out]
    rintro e w1 ⟨rfl, g1⟩
    go_wp2_with fail
    refine (ot_settled _ _ _ _ _ _ _ _ _ (by omega) h5 he).mono ?_
    rintro e w2 ⟨rfl, g2⟩
    go_wp2_with fail
    refine (ot_unplaced _ _ _ _ _ _ _ _ _ (by omega)).mono ?_
    rintro e w3 ⟨rfl, g3⟩
    go_wp2_with fail
    refine (suffix_of x (term a1 a2) _ hx1 t1).mono ?_
    rintro e w4 ⟨rfl, g4⟩
    go_wp2
    go_ret
    exact ⟨rfl, grown_trans (grown_trans (grown_trans g1 g2) g3) g4⟩
end Go.Proofs.Qxb6606449a
