/- The guards over strings, and the clones. -/
import Derived.Test.Qxb6003690aBlk
import Derived.Deep.OwnRows
namespace Go.Proofs.Qxb6003690a
open Go.RowKit Go.Deep
set_option linter.unusedVariables false

theorem inf9 : (Try.prog.info? 9).map (fun i => (i.zero, i.size, i.bytes)) = some (some (.string ByteArray.empty), 1, 16) := by kernel_rfl
theorem inf5 : (Try.prog.info? 5).map (fun i => (i.zero, i.size, i.bytes)) = some (some (.int .u8 0), 1, 1) := by kernel_rfl
theorem inf48 : (Try.prog.info? 48).map (fun i => (i.zero, i.size, i.bytes)) = some (some (.int .u16 0), 1, 2) := by kernel_rfl

theorem made_at (z : Value) (n j : Nat) (h : j < n) : (madeCells #[z] n)[j]? = some z := by
  simp [madeCells, h, Nat.mod_one]

/-- what the clone's loop keeps: the new row at block H = w.heap.size -/
def Cl (f : Nat → Value) (len k : Nat) (w wr : World) : Prop :=
  Below w.heap.size w wr ∧ w.heap.size < wr.heap.size ∧ (∀ j, wr.frozen? ⟨w.heap.size, j, none⟩ = false) ∧ ∃ g : Nat → Value, (∀ j, j < len → wr.cell? ⟨w.heap.size, j, none⟩ = some (g j)) ∧ ∀ j, j < k → g j = f j

theorem Cl.start (f : Nat → Value) (len : Nat) (w : World) (z : Value) (e : TypeId) : Cl f len 0 w (w.alloc (.cells (madeCells #[z] len) e)) :=
  ⟨(Below.refl _ _).alloc (Nat.le_refl _) _, by simp, fun j => by simp, fun _ => z, fun j hj => by simp [made_at z len j hj], fun j hj => by omega⟩

theorem Cl.step {f : Nat → Value} {len k : Nat} {w wr : World} (h : Cl f len k w wr) (hk : k < len) : Cl f len (k + 1) w (wr.setCell ⟨w.heap.size, k, none⟩ (f k)) := by
  obtain ⟨hb, hs, hf, g, hg, he⟩ := h
  refine ⟨hb.setCell (Nat.le_refl _) _, by simpa [World.setCell] using hs, fun j => by simp [hf j], fun j => if j = k then f k else g j, ?_, ?_⟩
  · intro j hj
    by_cases e : j = k
    · subst e
      simp [World.cell?_setCell_same _ _ _ (hg j hj)]
    · rw [World.cell?_setCell_other _ _ _ _ (by intro h; injection h; omega), hg j hj]; simp [e]
  · intro j hj
    by_cases e : j = k
    · simp [e]
    · simp only [if_neg e]; exact he j (by omega)

theorem Cl.at {f : Nat → Value} {len k : Nat} {w wr : World} (h : Cl f len k w wr) (hk : k < len) : ∃ v, wr.cell? ⟨w.heap.size, k, none⟩ = some v := by
  obtain ⟨hb, hs, hf, g, hg, he⟩ := h
  exact ⟨_, hg k hk⟩

theorem lt_of_cell {w : World} {b o : Nat} {v : Value} (h : w.cell? ⟨b, o, none⟩ = some v) : b < w.heap.size := World.block_lt_of_cell? w _ h

/-- what a clone is good for -/
def Cloned (f : Nat → Value) (len : Nat) (w w' : World) : Prop :=
  (∀ j, j < len → w'.cell? ⟨w.heap.size, j, none⟩ = some (f j)) ∧ Below w.heap.size w w' ∧ w.heap.size < w'.heap.size
theorem Cl.done {f : Nat → Value} {len : Nat} {w wr : World} (h : Cl f len len w wr) : Cloned f len w wr := by
  obtain ⟨hb, hs, hf, g, hg, he⟩ := h
  exact ⟨fun j hj => by rw [hg j hj, he j hj], hb, hs⟩

set_option maxHeartbeats 400000 in
theorem clone19 (b off len cap : Nat) (c : Nat → ByteArray) (w : World) (hl : len ≤ 1048576)
    (hc : ∀ j, j < len → w.cell? ⟨b, off + j, none⟩ = some (.string (c j))) :
    Calls Try.prog 19 #[.slice (some ⟨b, off, none⟩) len cap] w fun e w' => e = .returned (.slice (some ⟨w.heap.size, 0, none⟩) len len) ∧ Cloned (fun j => .string (c j)) len w w' := by
  have hmk := fun w => run_make_row' (P := Try.prog) 22 9 (.string ByteArray.empty) 16 Try.underlying22 inf9 rfl .i64 .i64 len (by omega) (by omega) w
  have hnil := fun w => Lib.run_eql_slice_nil (P := Try.prog) w 22 9 (some ⟨b, off, none⟩) len cap 0 0 Try.underlying22
  go_enter Try.func19, Try.ntmps19
  go_wp2
  clear hmk hnil
  go_loopw [4] (fun i wr => ∃ k : Nat, k ≤ len ∧ i = .int .i64 k ∧ Cl (fun j => .string (c j)) len k w wr) (fun i _ => len - (intOf i).toNat)
  case atStart => exact ⟨0, Nat.zero_le _, rfl, Cl.start _ _ _ _ _⟩
  case round =>
    obtain ⟨k, hk, rfl, hcl⟩ := hrel
    by_cases hlt : k < len
    · have hck := hc k hlt
      have hbl := lt_of_cell hck
      have hck' : wr.cell? ⟨b, off + k, none⟩ = some (.string (c k)) := by rw [hcl.1.cell (p := ⟨b, off + k, none⟩) hbl]; exact hck
      have hfr := hcl.2.2.1 k
      obtain ⟨v, hv⟩ := hcl.at hlt
      have hs := hcl.2.1
      clear hck
      go_wp2
      go_roundw
      case rel => exact ⟨k + 1, by omega, by go_num, hcl.step hlt⟩
      case measure => simp [intOf]; omega
    · have : k = len := by omega
      subst this
      go_wp2
      go_ret
      exact ⟨rfl, hcl.done⟩

/-- the clone of an empty slice -/
theorem clone19_nil (w : World) : Calls Try.prog 19 #[.slice none 0 0] w fun e w' => ∃ a c, e = .returned (.slice a 0 c) ∧ Below w.heap.size w w' := by
  have hnil := fun w => Lib.run_eql_slice_nil (P := Try.prog) w 22 9 none 0 0 0 0 Try.underlying22
  go_enter Try.func19, Try.ntmps19
  go_wp2
  go_ret
  exact ⟨_, _, rfl, Below.refl _ _⟩
theorem clone19_empty (x : Addr) (cap : Nat) (w : World) : Calls Try.prog 19 #[.slice (some x) 0 cap] w fun e w' => ∃ a c, e = .returned (.slice a 0 c) ∧ Below w.heap.size w w' := by
  have hmk : ∀ w, (Instr.makeSlice 22 (.int .i64 0) (.int .i64 0)).run Try.prog w = .ok (.slice (some ⟨w.heap.size, 0, none⟩) 0 0) (w.alloc (.cells (madeCells #[.string ByteArray.empty] 0) 9)) := fun w => run_make_row' (P := Try.prog) 22 9 (.string ByteArray.empty) 16 Try.underlying22 inf9 rfl .i64 .i64 0 (by omega) (by omega) w
  have hnil := fun w => Lib.run_eql_slice_nil (P := Try.prog) w 22 9 (some x) 0 cap 0 0 Try.underlying22
  go_enter Try.func19, Try.ntmps19
  go_wp2
  refine wp_loop_rounds 1 ?_
  rw [rounds_succ]
  go_wp2
  go_ret
  exact ⟨_, _, rfl, (Below.refl _ _).alloc (Nat.le_refl _) _⟩
end Go.Proofs.Qxb6003690a
