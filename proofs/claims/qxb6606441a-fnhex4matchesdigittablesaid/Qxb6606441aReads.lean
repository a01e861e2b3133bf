/- The walk of FnHex4ReadsBackFormattedNumber. -/
import Derived.Test.Qxb6606441aHex
namespace Go.Proofs.Qxb6606441a
open Go.RowKit
set_option linter.unusedVariables false

theorem mk4 (w : World) : (Instr.makeSlice 22 (.int .i64 4) (.int .i64 4)).run Try.prog w = .ok (.slice (some ⟨w.heap.size, 0, none⟩) 4 4) (w.alloc (.cells #[.int .u8 0, .int .u8 0, .int .u8 0, .int .u8 0] 5)) := by kernel_rfl

/-- digit k of n -/
def dg (n : Int) (k : Nat) : Int := n / 2 ^ (12 - 4 * k) % 16

theorem i64_and15 (n : Int) : bits .and .i64 n 15 = n % 16 := by
  have h15 : (BitVec.ofInt 64 15).toNat = 2 ^ 4 - 1 := by decide
  have key : (BitVec.ofInt 64 n &&& BitVec.ofInt 64 15).toNat = (n % ((2 ^ 64 : Nat) : Int)).toNat % 2 ^ 4 := by
    rw [BitVec.toNat_and, BitVec.toNat_ofInt, h15, Nat.and_two_pow_sub_one_eq_mod]
  show IntKind.i64.wrap ((BitVec.ofInt 64 n &&& BitVec.ofInt 64 15).toNat : Nat) = n % 16
  rw [key, IntKind.wrap_i64]
  omega

theorem dg_and (n : Int) (k : Nat) (h0 : 0 ≤ n) : ∃ m : Nat, m < 16 ∧ Hid (dg n k = m) ∧ bits BinOp.and IntKind.i64 (n / 2 ^ (12 - 4 * k)) 15 = (m : Int) := by
  obtain ⟨n, rfl⟩ := Int.eq_ofNat_of_zero_le h0
  refine ⟨n / 2 ^ (12 - 4 * k) % 16, Nat.mod_lt _ (by omega), ?_, ?_⟩
  · show dg _ _ = _
    simp [dg]
  · rw [i64_and15]; simp

theorem hv_dg (n : Int) (h0 : 0 ≤ n) (h1 : n ≤ 65535) : hv (dg n) 4 = n := by
  simp [hv, dg]
  omega

theorem upper_hex (m : Nat) (h : m < 16) (h' : m < (ByteArray.mk #[48, 49, 50, 51, 52, 53, 54, 55, 56, 57, 65, 66, 67, 68, 69, 70]).size) : IsHex (((ByteArray.mk #[48, 49, 50, 51, 52, 53, 54, 55, 56, 57, 65, 66, 67, 68, 69, 70])[m]'h').toNat : Int) (m : Int) := by
  have : m = 0 ∨ m = 1 ∨ m = 2 ∨ m = 3 ∨ m = 4 ∨ m = 5 ∨ m = 6 ∨ m = 7 ∨ m = 8 ∨ m = 9 ∨ m = 10 ∨ m = 11 ∨ m = 12 ∨ m = 13 ∨ m = 14 ∨ m = 15 := by omega
  unfold IsHex
  rcases this with rfl | rfl | rfl | rfl | rfl | rfl | rfl | rfl | rfl | rfl | rfl | rfl | rfl | rfl | rfl | rfl <;> (clear h; decide +revert)
theorem lower_hex (m : Nat) (h : m < 16) (h' : m < (ByteArray.mk #[48, 49, 50, 51, 52, 53, 54, 55, 56, 57, 97, 98, 99, 100, 101, 102]).size) : IsHex (((ByteArray.mk #[48, 49, 50, 51, 52, 53, 54, 55, 56, 57, 97, 98, 99, 100, 101, 102])[m]'h').toNat : Int) (m : Int) := by
  have : m = 0 ∨ m = 1 ∨ m = 2 ∨ m = 3 ∨ m = 4 ∨ m = 5 ∨ m = 6 ∨ m = 7 ∨ m = 8 ∨ m = 9 ∨ m = 10 ∨ m = 11 ∨ m = 12 ∨ m = 13 ∨ m = 14 ∨ m = 15 := by omega
  unfold IsHex
  rcases this with rfl | rfl | rfl | rfl | rfl | rfl | rfl | rfl | rfl | rfl | rfl | rfl | rfl | rfl | rfl | rfl <;> (clear h; decide +revert)

theorem rel_step {w wr : World} {k : Nat} {c : Nat → Int} {n x : Int} {m : Nat} (hlt : k < 4) (hg : Grown w wr) (hsz : w.heap.size < wr.heap.size)
    (hc : ∀ j, j < 4 → wr.cell? ⟨w.heap.size, j, none⟩ = some (.int .u8 (c j))) (hd : ∀ j, j < k → IsHex (c j) (dg n j)) (hm : Hid (dg n k = m)) (hx : IsHex x m) :
    ∃ (k' : Nat) (c : Nat → Int), k' ≤ 4 ∧ Value.int .i64 ((k : Int) + 1) = .int .i64 (k' : Int) ∧ Grown w (wr.setCell ⟨w.heap.size, k, none⟩ (.int .u8 x)) ∧ w.heap.size < (wr.setCell ⟨w.heap.size, k, none⟩ (.int .u8 x)).heap.size ∧
      (∀ j, j < 4 → (wr.setCell ⟨w.heap.size, k, none⟩ (.int .u8 x)).cell? ⟨w.heap.size, j, none⟩ = some (.int .u8 (c j))) ∧ (∀ j, j < k' → IsHex (c j) (dg n j)) := by
  refine ⟨k + 1, fun j => if j = k then x else c j, by omega, by simp, hg.setCell (Nat.le_refl _) _, by simpa [World.setCell] using hsz, ?_, ?_⟩
  · intro j hj
    by_cases e : j = k
    · subst e
      simp [World.cell?_setCell_same _ _ _ (hc j hj)]
    · rw [World.cell?_setCell_other _ _ _ _ (by intro h; injection h; omega), hc j hj]; simp [e]
  · intro j hj
    by_cases e : j = k
    · subst e
      rw [hm.out]
      simpa using hx
    · simp only [if_neg e]
      exact hd j (by omega)

theorem not_frozen {w wr : World} {k : Nat} (hg : Grown w wr) : wr.frozen? ⟨w.heap.size, k, none⟩ = false := by
  rw [hg.2.1]
  simp [World.frozen?]

theorem start4 (w : World) (n : Int) : ∃ (k : Nat) (c : Nat → Int), k ≤ 4 ∧ Value.int .i64 0 = .int .i64 (k : Int) ∧ Grown w (w.alloc (.cells #[.int .u8 0, .int .u8 0, .int .u8 0, .int .u8 0] 5)) ∧ w.heap.size < (w.alloc (.cells #[.int .u8 0, .int .u8 0, .int .u8 0, .int .u8 0] 5)).heap.size ∧
      (∀ j, j < 4 → (w.alloc (.cells #[.int .u8 0, .int .u8 0, .int .u8 0, .int .u8 0] 5)).cell? ⟨w.heap.size, j, none⟩ = some (.int .u8 (c j))) ∧ (∀ j, j < k → IsHex (c j) (dg n j)) := by
  refine ⟨0, fun _ => 0, by omega, rfl, (Grown.refl _).alloc _ _, by simp, ?_, by omega⟩
  intro j hj
  have : j = 0 ∨ j = 1 ∨ j = 2 ∨ j = 3 := by omega
  rcases this with rfl | rfl | rfl | rfl <;> simp

theorem fin (n : Int) (h0 : 0 ≤ n) (h1 : n ≤ 65535) : (hv (dg n) 4 == n) = true := by rw [hv_dg n h0 h1]; simp

set_option maxHeartbeats 400000 in
theorem reads_in (a0 a1 : Int) (w : World) (h0 : 0 ≤ a0) (h1 : a0 ≤ 65535) (h2 : 0 ≤ a1) (h3 : a1 ≤ 255) :
    Calls Try.prog 4 #[.int .i64 a0, .int .u8 a1] w fun e w' => e = .returned (.bool true) ∧ Grown w w' := by
  have hmk := mk4
  go_enter Try.func4, Try.ntmps4
  go_wp2
  clear hmk
  go_loopw [6] (fun i wr => ∃ (k : Nat) (c : Nat → Int), k ≤ 4 ∧ i = .int .i64 k ∧ Grown w wr ∧ w.heap.size < wr.heap.size ∧ (∀ j, j < 4 → wr.cell? ⟨w.heap.size, j, none⟩ = some (.int .u8 (c j))) ∧ (∀ j, j < k → IsHex (c j) (dg a0 j)))
    (fun i _ => 4 - (intOf i).toNat)
  case atStart => exact start4 w a0
  case round =>
    obtain ⟨k, c, hk, rfl, hg, hsz, hc, hd⟩ := hrel
    by_cases hlt : k < 4
    · have hck := hc k hlt
      have hfr : wr.frozen? ⟨w.heap.size, k, none⟩ = false := not_frozen hg
      have hk0 : (0:Int) ≤ (k : Int) := by omega
      have hk1 : (k:Int) < 4 := by omega
      obtain ⟨m, hm16, HM, hb⟩ := dg_and a0 k h0
      go_wp2
      · go_roundw
        case rel => exact rel_step hlt hg hsz hc hd HM (upper_hex m hm16 _)
        case measure => simp [intOf]; omega
      · go_roundw
        case rel => exact rel_step hlt hg hsz hc hd HM (lower_hex m hm16 _)
        case measure => simp [intOf]; omega
    · have hk4 : k = 4 := by omega
      subst hk4
      go_wp2_with (go_at_call 9; refine (zzhex4_any w.heap.size 4 4 0 c (dg a0) _ (by omega) (by decide) (by simpa using hc) hd).mono ?_; rintro e w' ⟨rfl, rfl⟩)
      go_ret
      exact ⟨by rw [fin a0 h0 h1]; rfl, hg⟩

theorem u8_bd {n : Int} (h : (Lit.int .u8 n).wf = true) : 0 ≤ n ∧ n ≤ 255 := by
  simpa [Lit.wf, IntKind.min, IntKind.max, IntKind.bits, IntKind.signed] using h

theorem reads_any (a0 a1 : Int) (w0 : (Lit.int .i64 a0).wf = true) (w1 : (Lit.int .u8 a1).wf = true) (w : World) :
    Calls Try.prog 4 #[.int .i64 a0, .int .u8 a1] w fun e w' => e = .returned (.bool true) ∧ Grown w w' := by
  by_cases h0 : 0 ≤ a0
  · by_cases h1 : a0 ≤ 65535
    · exact reads_in a0 a1 w h0 h1 (u8_bd w1).1 (u8_bd w1).2
    · go_enter Try.func4, Try.ntmps4
      go_wp2
      go_ret
      exact ⟨rfl, Grown.refl _⟩
  · go_enter Try.func4, Try.ntmps4
    go_wp2
    go_ret
    exact ⟨rfl, Grown.refl _⟩
end Go.Proofs.Qxb6606441a
