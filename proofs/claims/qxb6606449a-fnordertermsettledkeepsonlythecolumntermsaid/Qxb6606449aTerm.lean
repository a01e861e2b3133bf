/- What ZZorderTerm returns, case by case. -/
import Derived.Test.Qxb6606449aRows
import Derived.WalkKit
import Derived.WalkSpells
namespace Go.Proofs.Qxb6606449a
open Go.RowKit
set_option linter.unusedVariables false

/-- the column's own term -/
def term (col : ByteArray) (desc : Bool) : ByteArray := if desc then col ++ ⟨#[32, 68, 69, 83, 67]⟩ else col ++ ⟨#[32, 65, 83, 67]⟩
theorem term_true (col : ByteArray) : term col true = col ++ ⟨#[32, 68, 69, 83, 67]⟩ := rfl
theorem term_false (col : ByteArray) : term col false = col ++ ⟨#[32, 65, 83, 67]⟩ := rfl

theorem grown_trans {a b c : World} (h : Grown a b) (k : Grown b c) : Grown a c :=
  ⟨World.keptBut_trans h.1 (World.keptBut_mono (fun _ f => f.elim) k.1), fun x => (k.2.1 x).trans (h.2.1 x), Nat.le_trans h.2.2 k.2.2⟩

set_option maxHeartbeats 400000 in
theorem ot_unplaced (name col : ByteArray) (desc nf uq : Bool) (fname flag : ByteArray) (st : Bool) (w : World) (hc : col.size ≤ 100000) :
    Calls Try.prog 7 #[.string name, .string col, .bool desc, .bool nf, .bool uq, .int .u8 0, .string fname, .string flag, .bool st] w fun e w' => e = .returned (.string (term col desc)) ∧ Grown w w' := by
  cases desc
  all_goals
    go_enter Try.func7, Try.ntmps7
    go_wp2
    go_ret
    exact ⟨rfl, by repeat (first | exact Grown.refl _ | apply Grown.drew | apply Grown.alloc)⟩

/-- by the clause -/
def clause (t : ByteArray) (nf : Bool) : ByteArray := if nf then t ++ ⟨#[32, 78, 85, 76, 76, 83, 32, 70, 73, 82, 83, 84]⟩ else t ++ ⟨#[32, 78, 85, 76, 76, 83, 32, 76, 65, 83, 84]⟩
set_option maxHeartbeats 800000 in
theorem ot_clause (name col : ByteArray) (desc nf uq : Bool) (fname flag : ByteArray) (st : Bool) (w : World) (hc : col.size ≤ 100000) :
    Calls Try.prog 7 #[.string name, .string col, .bool desc, .bool nf, .bool uq, .int .u8 1, .string fname, .string flag, .bool st] w fun e w' => e = .returned (.string (clause (term col desc) nf)) ∧ Grown w w' := by
  cases desc <;> cases nf
  all_goals
    go_enter Try.func7, Try.ntmps7
    go_wp2
    go_ret
    exact ⟨rfl, by repeat (first | exact Grown.refl _ | apply Grown.drew | apply Grown.alloc)⟩

set_option maxHeartbeats 800000 in
theorem ot_settled (name col : ByteArray) (desc nf uq : Bool) (n : Int) (fname flag : ByteArray) (w : World) (hc : col.size ≤ 100000) (hn : 2 ≤ n) (hf : flag.toList.isEmpty = true) :
    Calls Try.prog 7 #[.string name, .string col, .bool desc, .bool nf, .bool uq, .int .u8 n, .string fname, .string flag, .bool true] w fun e w' => e = .returned (.string (term col desc)) ∧ Grown w w' := by
  cases desc <;> cases nf
  all_goals
    go_enter Try.func7, Try.ntmps7
    go_wp2
    go_ret
    exact ⟨rfl, by repeat (first | exact Grown.refl _ | apply Grown.drew | apply Grown.alloc)⟩

/-- what tells whether the column is NULL -/
def nullness (col flag : ByteArray) : ByteArray := if flag.toList.isEmpty then col ++ ⟨#[32, 73, 83, 32, 78, 85, 76, 76]⟩ else flag
theorem nullness_empty {col flag : ByteArray} (h : flag.toList.isEmpty = true) : nullness col flag = col ++ ⟨#[32, 73, 83, 32, 78, 85, 76, 76]⟩ := by unfold nullness; rw [h]; rfl
theorem nullness_flag {col flag : ByteArray} (h : flag.toList.isEmpty = false) : nullness col flag = flag := by unfold nullness; rw [h]; rfl
def led (l t : ByteArray) (nf : Bool) : ByteArray := if nf then l ++ ⟨#[32, 68, 69, 83, 67, 44, 32]⟩ ++ t else l ++ ⟨#[32, 65, 83, 67, 44, 32]⟩ ++ t

set_option maxHeartbeats 1600000 in
theorem ot_open_empty (name col : ByteArray) (desc nf uq : Bool) (n : Int) (fname flag : ByteArray) (w : World) (hc : col.size ≤ 100000) (hn : 2 ≤ n) (hf : flag.toList.isEmpty = true) :
    Calls Try.prog 7 #[.string name, .string col, .bool desc, .bool nf, .bool uq, .int .u8 n, .string fname, .string flag, .bool false] w fun e w' => e = .returned (.string (led (col ++ ⟨#[32, 73, 83, 32, 78, 85, 76, 76]⟩) (term col desc) nf)) ∧ Grown w w' := by
  cases desc <;> cases nf
  all_goals
    go_enter Try.func7, Try.ntmps7
    go_wp2
    go_ret
    exact ⟨rfl, by repeat (first | exact Grown.refl _ | apply Grown.drew | apply Grown.alloc)⟩

set_option maxHeartbeats 1600000 in
theorem ot_flag (name col : ByteArray) (desc nf uq : Bool) (n : Int) (fname flag : ByteArray) (st : Bool) (w : World) (hc : col.size ≤ 100000) (hfl : flag.size ≤ 100000) (hn : 2 ≤ n) (hf : flag.toList.isEmpty = false) :
    Calls Try.prog 7 #[.string name, .string col, .bool desc, .bool nf, .bool uq, .int .u8 n, .string fname, .string flag, .bool st] w fun e w' => e = .returned (.string (led flag (term col desc) nf)) ∧ Grown w w' := by
  cases desc <;> cases nf <;> cases st
  all_goals
    go_enter Try.func7, Try.ntmps7
    go_wp2
    go_ret
    exact ⟨rfl, by repeat (first | exact Grown.refl _ | apply Grown.drew | apply Grown.alloc)⟩

end Go.Proofs.Qxb6606449a
