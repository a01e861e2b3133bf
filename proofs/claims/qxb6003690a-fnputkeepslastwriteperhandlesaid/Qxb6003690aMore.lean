/- The guards and the clones of the other laws; ZZNewBlocks. -/
import Derived.Test.Qxb6003690aInv
namespace Go.Proofs.Qxb6003690a
open Go.RowKit Go.Deep
set_option linter.unusedVariables false

/-- it answers some int and turns nothing -/
def Gives (w : World) (e : Ending) (w' : World) : Prop := ∃ n : Int, e = .returned (.int .i64 n) ∧ w' = w
theorem give {w : World} (n : Int) : Gives w (.returned (.int .i64 n)) w := ⟨n, rfl, rfl⟩

set_option maxHeartbeats 400000 in
theorem bytes7 (a : Option Addr) (len cap : Nat) (c : Nat → ByteArray) (w : World) (hs : Strs w a len c) (hm : len ≤ maxLen) :
    Calls Try.prog 7 #[.slice a len cap] w fun e w' => Tells True w e w' := by
  unfold maxLen at hm
  rcases hs with rfl | ⟨b, off, rfl, hc⟩
  · go_enter Try.func7, Try.ntmps7
    go_wp2
    refine wp_loop_rounds 1 ?_
    rw [rounds_succ]
    go_wp2
    go_ret
    first | exact tell true (fun _ => trivial) | exact tell false (fun _ => trivial)
  · by_cases hl : (1048576 : Int) < (len : Int)
    · go_enter Try.func7, Try.ntmps7
      go_wp2
      go_ret
      first | exact tell true (fun _ => trivial) | exact tell false (fun _ => trivial)
    · go_enter Try.func7, Try.ntmps7
      go_wp2
      go_loop [3, 4] (fun n i => ∃ (k : Nat) (m : Int), k ≤ len ∧ i = .int .i64 k ∧ n = .int .i64 m) (fun _ i => len - (intOf i).toNat)
      case atStart => exact ⟨0, _, Nat.zero_le _, rfl, rfl⟩
      case round =>
        obtain ⟨k, m, hk, rfl, rfl⟩ := hrel
        by_cases hlt : k < len
        · have hck := hc k hlt
          go_wp2
          all_goals first
            | (go_ret; (first | exact tell true (fun _ => trivial) | exact tell false (fun _ => trivial)))
            | (go_round; (case rel => exact ⟨k + 1, _, by omega, by go_num, rfl⟩); (case measure => simp [intOf]; omega))
        · go_wp2
          go_ret
          first | exact tell true (fun _ => trivial) | exact tell false (fun _ => trivial)

set_option maxHeartbeats 400000 in
theorem sbytes8 (a : Option Addr) (len cap : Nat) (c : Nat → ByteArray) (w : World) (hs : Strs w a len c) (hm : len ≤ maxLen) :
    Calls Try.prog 8 #[.slice a len cap] w fun e w' => Gives w e w' := by
  unfold maxLen at hm
  rcases hs with rfl | ⟨b, off, rfl, hc⟩
  · go_enter Try.func8, Try.ntmps8
    go_wp2
    refine wp_loop_rounds 1 ?_
    rw [rounds_succ]
    go_wp2
    go_ret
    exact give _
  · by_cases hl : (65536 : Int) < (len : Int)
    · go_enter Try.func8, Try.ntmps8
      go_wp2
      go_ret
      exact give _
    · go_enter Try.func8, Try.ntmps8
      go_wp2
      go_loop [3, 4] (fun n i => ∃ (k : Nat) (m : Int), k ≤ len ∧ i = .int .i64 k ∧ n = .int .i64 m) (fun _ i => len - (intOf i).toNat)
      case atStart => exact ⟨0, _, Nat.zero_le _, rfl, rfl⟩
      case round =>
        obtain ⟨k, m, hk, rfl, rfl⟩ := hrel
        by_cases hlt : k < len
        · have hck := hc k hlt
          go_wp2
          all_goals first
            | (go_ret; (exact give _))
            | (go_round; (case rel => exact ⟨k + 1, _, by omega, by go_num, rfl⟩); (case measure => simp [intOf]; omega))
        · go_wp2
          go_ret
          exact give _

set_option maxHeartbeats 400000 in
theorem clone9 (b off len cap : Nat) (c : Nat → ByteArray) (w : World) (hl : len ≤ 1048576)
    (hc : ∀ j, j < len → w.cell? ⟨b, off + j, none⟩ = some (.string (c j))) :
    Calls Try.prog 9 #[.slice (some ⟨b, off, none⟩) len cap] w fun e w' => e = .returned (.slice (some ⟨w.heap.size, 0, none⟩) len len) ∧ Cloned (fun j => .string (c j)) len w w' := by
  have hmk := fun w => run_make_row' (P := Try.prog) 22 9 (.string ByteArray.empty) 16 Try.underlying22 inf9 rfl .i64 .i64 len (by omega) (by omega) w
  have hnil := fun w => Lib.run_eql_slice_nil (P := Try.prog) w 22 9 (some ⟨b, off, none⟩) len cap 0 0 Try.underlying22
  go_enter Try.func9, Try.ntmps9
  go_wp2
  clear hmk hnil
  go_loopw [4] (fun i wr => ∃ k : Nat, k ≤ len ∧ i = .int .i64 k ∧ Cl (fun j => .string (c j)) len k w wr) (fun i _ => len - (intOf i).toNat)
  case atStart => exact ⟨0, Nat.zero_le _, rfl, Cl.start _ _ _ _ _⟩
  case round =>
    obtain ⟨k, hk, rfl, hcl⟩ := hrel
    by_cases hlt : k < len
    · have hck := hc k hlt
      have hbl := lt_of_cell hck
      have hck' : wr.cell? ⟨b, off + k, none⟩ = some (.string (c k)) := by rw [hcl.1.cell (p := ⟨b, off + k, none⟩) hbl]; exact hck
      have hfr := hcl.2.2.1 k
      obtain ⟨v, hv⟩ := hcl.at hlt
      have hs := hcl.2.1
      clear hck
      go_wp2
      go_roundw
      case rel => exact ⟨k + 1, by omega, by go_num, hcl.step hlt⟩
      case measure => simp [intOf]; omega
    · have : k = len := by omega
      subst this
      go_wp2
      go_ret
      exact ⟨rfl, hcl.done⟩

/-- the clone of an empty slice -/
theorem clone9_nil (w : World) : Calls Try.prog 9 #[.slice none 0 0] w fun e w' => ∃ a c, e = .returned (.slice a 0 c) ∧ Below w.heap.size w w' := by
  have hnil := fun w => Lib.run_eql_slice_nil (P := Try.prog) w 22 9 none 0 0 0 0 Try.underlying22
  go_enter Try.func9, Try.ntmps9
  go_wp2
  go_ret
  exact ⟨_, _, rfl, Below.refl _ _⟩
theorem clone9_empty (x : Addr) (cap : Nat) (w : World) : Calls Try.prog 9 #[.slice (some x) 0 cap] w fun e w' => ∃ a c, e = .returned (.slice a 0 c) ∧ Below w.heap.size w w' := by
  have hmk : ∀ w, (Instr.makeSlice 22 (.int .i64 0) (.int .i64 0)).run Try.prog w = .ok (.slice (some ⟨w.heap.size, 0, none⟩) 0 0) (w.alloc (.cells (madeCells #[.string ByteArray.empty] 0) 9)) := fun w => run_make_row' (P := Try.prog) 22 9 (.string ByteArray.empty) 16 Try.underlying22 inf9 rfl .i64 .i64 0 (by omega) (by omega) w
  have hnil := fun w => Lib.run_eql_slice_nil (P := Try.prog) w 22 9 (some x) 0 cap 0 0 Try.underlying22
  go_enter Try.func9, Try.ntmps9
  go_wp2
  refine wp_loop_rounds 1 ?_
  rw [rounds_succ]
  go_wp2
  go_ret
  exact ⟨_, _, rfl, (Below.refl _ _).alloc (Nat.le_refl _) _⟩
theorem clone9_zero (a : Option Addr) (cap : Nat) (w : World) (h : a = none → cap = 0) : Calls Try.prog 9 #[.slice a 0 cap] w fun e w' => ∃ a c, e = .returned (.slice a 0 c) ∧ Below w.heap.size w w' := by
  cases a with
  | none => rw [h rfl]; exact clone9_nil w
  | some x => exact clone9_empty x cap w

set_option maxHeartbeats 400000 in
theorem clone15 (b off len cap : Nat) (c : Nat → Int) (w : World) (hl : len ≤ 1048576)
    (hc : ∀ j, j < len → w.cell? ⟨b, off + j, none⟩ = some (.int .u8 (c j))) :
    Calls Try.prog 15 #[.slice (some ⟨b, off, none⟩) len cap] w fun e w' => e = .returned (.slice (some ⟨w.heap.size, 0, none⟩) len len) ∧ Cloned (fun j => .int .u8 (c j)) len w w' := by
  have hmk := fun w => run_make_row' (P := Try.prog) 31 5 (.int .u8 0) 1 Try.underlying31 inf5 rfl .i64 .i64 len (by omega) (by omega) w
  have hnil := fun w => Lib.run_eql_slice_nil (P := Try.prog) w 31 5 (some ⟨b, off, none⟩) len cap 0 0 Try.underlying31
  go_enter Try.func15, Try.ntmps15
  go_wp2
  clear hmk hnil
  go_loopw [4] (fun i wr => ∃ k : Nat, k ≤ len ∧ i = .int .i64 k ∧ Cl (fun j => .int .u8 (c j)) len k w wr) (fun i _ => len - (intOf i).toNat)
  case atStart => exact ⟨0, Nat.zero_le _, rfl, Cl.start _ _ _ _ _⟩
  case round =>
    obtain ⟨k, hk, rfl, hcl⟩ := hrel
    by_cases hlt : k < len
    · have hck := hc k hlt
      have hbl := lt_of_cell hck
      have hck' : wr.cell? ⟨b, off + k, none⟩ = some (.int .u8 (c k)) := by rw [hcl.1.cell (p := ⟨b, off + k, none⟩) hbl]; exact hck
      have hfr := hcl.2.2.1 k
      obtain ⟨v, hv⟩ := hcl.at hlt
      have hs := hcl.2.1
      clear hck
      go_wp2
      go_roundw
      case rel => exact ⟨k + 1, by omega, by go_num, hcl.step hlt⟩
      case measure => simp [intOf]; omega
    · have : k = len := by omega
      subst this
      go_wp2
      go_ret
      exact ⟨rfl, hcl.done⟩

/-- the clone of an empty slice -/
theorem clone15_nil (w : World) : Calls Try.prog 15 #[.slice none 0 0] w fun e w' => ∃ a c, e = .returned (.slice a 0 c) ∧ Below w.heap.size w w' := by
  have hnil := fun w => Lib.run_eql_slice_nil (P := Try.prog) w 31 5 none 0 0 0 0 Try.underlying31
  go_enter Try.func15, Try.ntmps15
  go_wp2
  go_ret
  exact ⟨_, _, rfl, Below.refl _ _⟩
theorem clone15_empty (x : Addr) (cap : Nat) (w : World) : Calls Try.prog 15 #[.slice (some x) 0 cap] w fun e w' => ∃ a c, e = .returned (.slice a 0 c) ∧ Below w.heap.size w w' := by
  have hmk : ∀ w, (Instr.makeSlice 31 (.int .i64 0) (.int .i64 0)).run Try.prog w = .ok (.slice (some ⟨w.heap.size, 0, none⟩) 0 0) (w.alloc (.cells (madeCells #[.int .u8 0] 0) 5)) := fun w => run_make_row' (P := Try.prog) 31 5 (.int .u8 0) 1 Try.underlying31 inf5 rfl .i64 .i64 0 (by omega) (by omega) w
  have hnil := fun w => Lib.run_eql_slice_nil (P := Try.prog) w 31 5 (some x) 0 cap 0 0 Try.underlying31
  go_enter Try.func15, Try.ntmps15
  go_wp2
  refine wp_loop_rounds 1 ?_
  rw [rounds_succ]
  go_wp2
  go_ret
  exact ⟨_, _, rfl, (Below.refl _ _).alloc (Nat.le_refl _) _⟩
theorem clone15_zero (a : Option Addr) (cap : Nat) (w : World) (h : a = none → cap = 0) : Calls Try.prog 15 #[.slice a 0 cap] w fun e w' => ∃ a c, e = .returned (.slice a 0 c) ∧ Below w.heap.size w w' := by
  cases a with
  | none => rw [h rfl]; exact clone15_nil w
  | some x => exact clone15_empty x cap w

set_option maxHeartbeats 400000 in
theorem clone23 (b off len cap : Nat) (c : Nat → Int) (w : World) (hl : len ≤ 1048576)
    (hc : ∀ j, j < len → w.cell? ⟨b, off + j, none⟩ = some (.int .u16 (c j))) :
    Calls Try.prog 23 #[.slice (some ⟨b, off, none⟩) len cap] w fun e w' => e = .returned (.slice (some ⟨w.heap.size, 0, none⟩) len len) ∧ Cloned (fun j => .int .u16 (c j)) len w w' := by
  have hmk := fun w => run_make_row' (P := Try.prog) 44 48 (.int .u16 0) 2 Try.underlying44 inf48 rfl .i64 .i64 len (by omega) (by omega) w
  have hnil := fun w => Lib.run_eql_slice_nil (P := Try.prog) w 44 48 (some ⟨b, off, none⟩) len cap 0 0 Try.underlying44
  go_enter Try.func23, Try.ntmps23
  go_wp2
  clear hmk hnil
  go_loopw [4] (fun i wr => ∃ k : Nat, k ≤ len ∧ i = .int .i64 k ∧ Cl (fun j => .int .u16 (c j)) len k w wr) (fun i _ => len - (intOf i).toNat)
  case atStart => exact ⟨0, Nat.zero_le _, rfl, Cl.start _ _ _ _ _⟩
  case round =>
    obtain ⟨k, hk, rfl, hcl⟩ := hrel
    by_cases hlt : k < len
    · have hck := hc k hlt
      have hbl := lt_of_cell hck
      have hck' : wr.cell? ⟨b, off + k, none⟩ = some (.int .u16 (c k)) := by rw [hcl.1.cell (p := ⟨b, off + k, none⟩) hbl]; exact hck
      have hfr := hcl.2.2.1 k
      obtain ⟨v, hv⟩ := hcl.at hlt
      have hs := hcl.2.1
      clear hck
      go_wp2
      go_roundw
      case rel => exact ⟨k + 1, by omega, by go_num, hcl.step hlt⟩
      case measure => simp [intOf]; omega
    · have : k = len := by omega
      subst this
      go_wp2
      go_ret
      exact ⟨rfl, hcl.done⟩

/-- the clone of an empty slice -/
theorem clone23_nil (w : World) : Calls Try.prog 23 #[.slice none 0 0] w fun e w' => ∃ a c, e = .returned (.slice a 0 c) ∧ Below w.heap.size w w' := by
  have hnil := fun w => Lib.run_eql_slice_nil (P := Try.prog) w 44 48 none 0 0 0 0 Try.underlying44
  go_enter Try.func23, Try.ntmps23
  go_wp2
  go_ret
  exact ⟨_, _, rfl, Below.refl _ _⟩
theorem clone23_empty (x : Addr) (cap : Nat) (w : World) : Calls Try.prog 23 #[.slice (some x) 0 cap] w fun e w' => ∃ a c, e = .returned (.slice a 0 c) ∧ Below w.heap.size w w' := by
  have hmk : ∀ w, (Instr.makeSlice 44 (.int .i64 0) (.int .i64 0)).run Try.prog w = .ok (.slice (some ⟨w.heap.size, 0, none⟩) 0 0) (w.alloc (.cells (madeCells #[.int .u16 0] 0) 48)) := fun w => run_make_row' (P := Try.prog) 44 48 (.int .u16 0) 2 Try.underlying44 inf48 rfl .i64 .i64 0 (by omega) (by omega) w
  have hnil := fun w => Lib.run_eql_slice_nil (P := Try.prog) w 44 48 (some x) 0 cap 0 0 Try.underlying44
  go_enter Try.func23, Try.ntmps23
  go_wp2
  refine wp_loop_rounds 1 ?_
  rw [rounds_succ]
  go_wp2
  go_ret
  exact ⟨_, _, rfl, (Below.refl _ _).alloc (Nat.le_refl _) _⟩
theorem clone23_zero (a : Option Addr) (cap : Nat) (w : World) (h : a = none → cap = 0) : Calls Try.prog 23 #[.slice a 0 cap] w fun e w' => ∃ a c, e = .returned (.slice a 0 c) ∧ Below w.heap.size w w' := by
  cases a with
  | none => rw [h rfl]; exact clone23_nil w
  | some x => exact clone23_empty x cap w


theorem new10 (w : World) : Calls Try.prog 10 #[] w fun e w' => e = .returned (.pointer (some ⟨w.heap.size, 0, none⟩)) ∧ w' = w.alloc (.cells #[.slice none 0 0] 41) := by
  go_enter Try.func10, Try.ntmps10
  go_wp2
  go_ret
  exact ⟨rfl, rfl⟩
end Go.Proofs.Qxb6003690a
