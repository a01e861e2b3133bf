/- sqlstoreB1HasSuffix at a string and a suffix of it. -/
import Derived.Test.Qxb6606449aRows
import Derived.WalkKit
import Derived.WalkSpells
namespace Go.Proofs.Qxb6606449a
open Go.RowKit
set_option linter.unusedVariables false

set_option maxHeartbeats 400000 in
theorem suffix_any (s t : ByteArray) (d : Nat) (w : World) (hs : s.size ≤ 1000000) (hd : s.size = d + t.size) (h : ∀ k (h1 : k < t.size) (h2 : d + k < s.size), s[d + k] = t[k]) :
    Calls Try.prog 10 #[.string s, .string t] w fun e w' => e = .returned (.bool true) ∧ Grown w w' := by
  have h1 : (t.size : Int) ≤ (s.size : Int) := by omega
  have h2 : (s.size : Int) - (t.size : Int) = (d : Int) := by omega
  have HD : Hid (s.size = d + t.size) := hd
  have hs' : (s.size : Int) ≤ 1000000 := by omega
  clear hd
  go_enter Try.func10, Try.ntmps10
  go_wp2
  go_loopw [6] (fun i wr => ∃ k : Nat, k ≤ t.size ∧ i = .int .i64 k ∧ Grown w wr) (fun i _ => t.size - (intOf i).toNat)
  case atStart => exact ⟨0, Nat.zero_le _, rfl, Grown.refl _⟩
  case round =>
    obtain ⟨k, hk, rfl, hg⟩ := hrel
    by_cases hlt : k < t.size
    · have hb : d + k < s.size := by have := HD.out; omega
      have he := h k hlt hb
      have i0 : (0 : Int) ≤ (k : Int) := by omega
      have i1 : (k : Int) < (t.size : Int) := by omega
      have i2 : (d : Int) + (k : Int) < (s.size : Int) := by omega
      have hw : IntKind.i64.wrap ((d : Int) + (k : Int)) = (d : Int) + (k : Int) := by rw [IntKind.wrap_i64]; omega
      have i3 : (0 : Int) ≤ (d : Int) + (k : Int) := by omega
      have i4 : ((d : Int) + (k : Int)).toNat = d + k := by omega
      go_wp2
      go_region
      go_wp2
      go_roundw
      case rel => exact ⟨k + 1, by omega, by go_num, hg.drew⟩
      case measure => simp [intOf]; omega
    · go_wp2
      go_ret
      exact ⟨rfl, hg⟩
end Go.Proofs.Qxb6606449a
