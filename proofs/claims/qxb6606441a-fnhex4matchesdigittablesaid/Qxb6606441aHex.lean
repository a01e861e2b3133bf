/- The contract of 'hex4' at four hex digits. -/
import Derived.Test.Qxb6606441aRows
import Derived.WalkKit
import Derived.Laws.BitsAllLaws
namespace Go.Proofs.Qxb6606441a
open Go.RowKit
set_option linter.unusedVariables false

/-- c is the byte of a hex digit of value d. -/
def IsHex (c d : Int) : Prop := (48 ≤ c ∧ c ≤ 57 ∧ d = c - 48) ∨ (65 ≤ c ∧ c ≤ 70 ∧ d = c - 55) ∨ (97 ≤ c ∧ c ≤ 102 ∧ d = c - 87)
theorem IsHex.lo {c d : Int} (h : IsHex c d) : 0 ≤ d ∧ d ≤ 15 ∧ 48 ≤ c ∧ c ≤ 102 := by unfold IsHex at h; omega

/-- the value of the first k digits -/
def hv (d : Nat → Int) : Nat → Int
  | 0 => 0
  | k + 1 => hv d k * 16 + d k

theorem hv_bd (d : Nat → Int) (k : Nat) (h : ∀ j, j < k → 0 ≤ d j ∧ d j ≤ 15) : 0 ≤ hv d k ∧ hv d k < 16 ^ k := by
  induction k with
  | zero => simp [hv]
  | succ k ih =>
    have i := ih (fun j hj => h j (by omega))
    have g := h k (by omega)
    simp only [hv, Int.pow_succ]
    omega

theorem hv_lt (d : Nat → Int) (k : Nat) (hk : k < 4) (h : ∀ j, j < k → 0 ≤ d j ∧ d j ≤ 15) : 0 ≤ hv d k ∧ hv d k < 4096 := by
  have b := hv_bd d k h
  have : k = 0 ∨ k = 1 ∨ k = 2 ∨ k = 3 := by omega
  rcases this with rfl | rfl | rfl | rfl <;> simp at b <;> omega

theorem or_join (r d : Nat) (h1 : r < 4096) (h3 : d ≤ 15) : bits .or .i32 ((r * 16 : Nat) : Int) (d : Int) = ((r * 16 + d : Nat) : Int) := by
  show IntKind.i32.wrap ((BitVec.ofInt 32 ((r * 16 : Nat) : Int) ||| BitVec.ofInt 32 (d : Int)).toNat : Int) = _
  rw [BitVec.toNat_or, ofInt_u32 (r * 16) (by omega), ofInt_u32 d (by omega), nat_join 4 (r * 16) d (by omega) (by omega)]
  simp [IntKind.wrap, IntKind.bits, IntKind.signed]
  split <;> omega

theorem step (r x d : Int) (h0 : 0 ≤ r) (h1 : r < 4096) (hx : x = d) (h2 : 0 ≤ d) (h3 : d ≤ 15) : Value.int .i32 (bits .or .i32 (r * 16) x) = .int .i32 (r * 16 + d) := by
  subst hx
  obtain ⟨r, rfl⟩ := Int.eq_ofNat_of_zero_le h0
  obtain ⟨x, rfl⟩ := Int.eq_ofNat_of_zero_le h2
  have := or_join r x (by omega) (by omega)
  simp only [Int.natCast_mul, Int.natCast_add] at this
  rw [show ((16 : Nat) : Int) = 16 from rfl] at this
  rw [this]

theorem stepk (d : Nat → Int) (k : Nat) (x : Int) (hb : 0 ≤ hv d k ∧ hv d k < 4096) (hlo : 0 ≤ d k ∧ d k ≤ 15) (hx : x = d k) : Value.int .i32 (bits .or .i32 (hv d k * 16) x) = .int .i32 (hv d (k + 1)) :=
  step _ _ _ hb.1 hb.2 hx hlo.1 hlo.2

set_option maxHeartbeats 400000 in
theorem hex4_any (B len cap : Nat) (off : Nat) (c d : Nat → Int) (w : World) (hl : 4 ≤ cap) (hm : cap ≤ maxLen)
    (hc : ∀ j, j < 4 → w.cell? ⟨B, off + j, none⟩ = some (.int .u8 (c j))) (hd : ∀ j, j < 4 → IsHex (c j) (d j)) :
    Calls Try.prog 11 #[.slice (some ⟨B, off, none⟩) len cap] w fun e w' => e = .returned (.int .i32 (hv d 4)) ∧ w' = w := by
  unfold maxLen at hm
  go_enter Try.func11, Try.ntmps11
  go_wp2
  go_loop [3, 9] (fun r i => ∃ k : Nat, k ≤ 4 ∧ i = .int .i64 k ∧ r = .int .i32 (hv d k)) (fun _ i => 4 - (intOf i).toNat)
  case atStart => exact ⟨0, by omega, rfl, rfl⟩
  case round =>
    obtain ⟨k, hk, rfl, rfl⟩ := hrel
    by_cases hlt : k < 4
    · have hck := hc k hlt
      have hdk := hd k hlt
      have hb := hv_lt d k hlt (fun j hj => by have := (hd j (by omega)).lo; omega)
      have hlo := hdk.lo
      have HD : Hid (IsHex (c k) (d k)) := hdk
      clear hdk
      go_wp2
      all_goals
        go_round
        case rel => exact ⟨k + 1, by omega, by go_num, stepk d k _ hb ⟨hlo.1, hlo.2.1⟩ (by have := HD.out; unfold IsHex at this; omega)⟩
        case measure => simp [intOf]; omega
    · go_wp2
      go_ret
      have : k = 4 := by omega
      subst this
      exact ⟨rfl, rfl⟩

theorem zzhex4_any (B len cap : Nat) (off : Nat) (c d : Nat → Int) (w : World) (hl : 4 ≤ cap) (hm : cap ≤ maxLen)
    (hc : ∀ j, j < 4 → w.cell? ⟨B, off + j, none⟩ = some (.int .u8 (c j))) (hd : ∀ j, j < 4 → IsHex (c j) (d j)) :
    Calls Try.prog 9 #[.slice (some ⟨B, off, none⟩) len cap] w fun e w' => e = .returned (.int .i32 (hv d 4)) ∧ w' = w := by
  go_enter Try.func9, Try.ntmps9
  go_wp2_with (go_at_call 11; refine (hex4_any B len cap off c d w hl hm hc hd).mono ?_; rintro e w' ⟨rfl, rfl⟩)
  go_ret
  exact ⟨rfl, rfl⟩
end Go.Proofs.Qxb6606441a
