/- The walk of (*blocks).len, (*blocks).at and of their shims. -/
import Derived.Test.Qxb6003690aBlk
import Derived.Deep.QuietTactic
import Derived.BigQuiet
namespace Go.Proofs.Qxb6003690a
open Go.RowKit
set_option linter.unusedVariables false

def NoF : Nat → Prop := fun _ => False
theorem kept_drewN (w : World) (n : Nat) : Kept NoF w (w.drewN n) := ⟨rfl, rfl, rfl, Nat.le_refl _, fun _ _ _ => rfl⟩
theorem ret_int {k : IntKind} {a b : Int} (h : a = b) : Ending.returned (.int k a) = .returned (.int k b) := by rw [h]

set_option maxHeartbeats 400000 in
theorem len_pos (P G q g cap l : Nat) (w : World) (h1 : w.cell? ⟨P, 0, none⟩ = some (.slice (some ⟨G, 0, none⟩) (q + 1) cap)) (h2 : w.cell? ⟨G, q, none⟩ = some (.slice (some ⟨g, 0, none⟩) l 1024)) (hq : q ≤ 1000000) (hl : l ≤ 1024) :
    Calls Try.prog 25 #[.pointer (some ⟨P, 0, none⟩)] w fun e w' => e = .returned (.int .i64 ((1024 * q + l : Nat) : Int)) ∧ Kept NoF w w' := by
  have i0 : (0 : Int) ≤ (q : Int) := by omega
  have i1 : (q : Int) < (q : Int) + 1 := by omega
  have i2 : (((q : Int) + 1) == 0) = false := by simp; omega
  go_enter Try.func25, Try.ntmps25
  go_wp2
  go_quiet (fail)
  go_wp2
  go_ret
  exact ⟨ret_int (by omega), kept_drewN _ _⟩

theorem len_zero (P cap : Nat) (a : Option Addr) (w : World) (h1 : w.cell? ⟨P, 0, none⟩ = some (.slice a 0 cap)) :
    Calls Try.prog 25 #[.pointer (some ⟨P, 0, none⟩)] w fun e w' => e = .returned (.int .i64 0) ∧ Kept NoF w w' := by
  go_enter Try.func25, Try.ntmps25
  go_wp2
  go_ret
  exact ⟨rfl, Kept.refl _ _⟩

/-- the list as its users see it: the last block holds something -/
def Blks (w : World) (B P : Nat) (F : Nat → Prop) (xs : List ByteArray) : Prop :=
  ∃ v gs, Blk w B P v gs xs ∧ gs.length = (xs.length + 1023) / 1024 ∧ (∀ k, Foot P v gs k → F k) ∧ ∀ k, F k → B ≤ k ∧ k < w.heap.size

section
variable {w : World} {B P : Nat} {F : Nat → Prop} {xs : List ByteArray}

theorem Blks.kept (h : Blks w B P F xs) {F' : Nat → Prop} {w' : World} (hk : Kept F' w w') (hF : ∀ k, F k → ¬ F' k) : Blks w' B P F xs := by
  obtain ⟨v, gs, hb, hl, hf, hlt⟩ := h
  exact ⟨v, gs, hb.kept hk (fun k f => hF k (hf k f)), hl, hf, fun k f => ⟨(hlt k f).1, Nat.lt_of_lt_of_le (hlt k f).2 hk.size⟩⟩
theorem Blks.still (h : Blks w B P F xs) {w' : World} (hk : Kept NoF w w') : Blks w' B P F xs := h.kept hk (fun _ _ f => f)
theorem Blks.lt (h : Blks w B P F xs) : ∀ k, F k → B ≤ k ∧ k < w.heap.size := by
  obtain ⟨v, gs, hb, hl, hf, hlt⟩ := h
  exact hlt

theorem Blks.len (h : Blks w B P F xs) (hn : xs.length ≤ 1000000) : Calls Try.prog 25 #[.pointer (some ⟨P, 0, none⟩)] w fun e w' => e = .returned (.int .i64 (xs.length : Int)) ∧ Kept NoF w w' := by
  obtain ⟨v, gs, hb, hl, hf, hlt⟩ := h
  rcases Nat.eq_zero_or_pos xs.length with h0 | h0
  · have hg : gs.length = 0 := by omega
    have hv : ∃ a c, v = .slice a 0 c := by
      rcases hb.own.2 with ⟨e, _⟩ | ⟨g, cap, cur, e, _⟩
      · exact ⟨_, _, e⟩
      · rw [hg] at e; exact ⟨_, _, e⟩
    obtain ⟨a, c, rfl⟩ := hv
    rw [h0]
    exact len_zero P c a w hb.cell
  · obtain ⟨q, hq⟩ : ∃ q, gs.length = q + 1 := ⟨gs.length - 1, by omega⟩
    obtain ⟨G, cap, rfl, _⟩ := hb.form (by omega)
    obtain ⟨g, hg⟩ : ∃ g, gs[q]? = some g := ⟨gs[q], List.getElem?_eq_getElem (by omega)⟩
    have c1 := hb.cell
    have c2 := (hb.rowCell hg).1
    rw [hq] at c1
    have hr := hb.room
    have hfu := hb.full
    have el : lenAt xs.length q = xs.length - 1024 * q := by unfold lenAt; omega
    rw [rowVal, el] at c2
    refine (len_pos P G q g cap (xs.length - 1024 * q) w c1 c2 (by omega) (by omega)).mono fun e w' ⟨he, hk⟩ => ⟨?_, hk⟩
    rw [he]
    exact ret_int (by omega)

/-- 'ZZBlocksLen' -/
theorem Blks.zlen (h : Blks w B P F xs) (hn : xs.length ≤ 1000000) : Calls Try.prog 11 #[.pointer (some ⟨P, 0, none⟩)] w fun e w' => e = .returned (.int .i64 (xs.length : Int)) ∧ Kept NoF w w' := by
  go_enter Try.func11, Try.ntmps11
  go_wp2_with fail
  refine (h.len hn).mono ?_
  rintro e w' ⟨rfl, hk⟩
  go_wp2
  go_ret
  exact ⟨rfl, hk⟩
end

set_option maxHeartbeats 400000 in
theorem at_raw (P G nb g cap l i : Nat) (w : World) (h1 : w.cell? ⟨P, 0, none⟩ = some (.slice (some ⟨G, 0, none⟩) nb cap)) (h2 : w.cell? ⟨G, i / 1024, none⟩ = some (.slice (some ⟨g, 0, none⟩) l 1024)) (hq : i / 1024 < nb) (hl : i % 1024 < l) (hi : i ≤ 1000000) :
    Calls Try.prog 27 #[.pointer (some ⟨P, 0, none⟩), .int .i64 i] w fun e w' => e = .returned (.pointer (some ⟨g, i % 1024, none⟩)) ∧ w' = w := by
  have i0 : (0 : Int) ≤ (i : Int) / 1024 := by omega
  have i1 : (i : Int) / 1024 < (nb : Int) := by omega
  have i2 : (0 : Int) ≤ (i : Int) % 1024 := by omega
  have i3 : (i : Int) % 1024 < (l : Int) := by omega
  go_enter Try.func27, Try.ntmps27
  go_wp2
  go_ret
  exact ⟨rfl, rfl⟩

theorem Blks.at {w : World} {B P : Nat} {F : Nat → Prop} {xs : List ByteArray} (h : Blks w B P F xs) (hn : xs.length ≤ 1000000) (i : Nat) (s : ByteArray) (hi : xs[i]? = some s) :
    ∃ g, F g ∧ w.cell? ⟨g, i % 1024, none⟩ = some (.string s) ∧ w.frozen? ⟨g, i % 1024, none⟩ = false ∧ (∀ item, Blks (w.setCell ⟨g, i % 1024, none⟩ (.string item)) B P F (xs.set i item)) ∧
      ∀ m, Calls Try.prog 27 #[.pointer (some ⟨P, 0, none⟩), .int .i64 i] (w.drewN m) fun e w' => e = .returned (.pointer (some ⟨g, i % 1024, none⟩)) ∧ w' = w.drewN m := by
  obtain ⟨v, gs, hb, hl, hf, hlt⟩ := h
  have hil : i < xs.length := (List.getElem?_eq_some_iff.1 hi).1
  obtain ⟨G, cap, rfl, _⟩ := hb.form (by omega)
  obtain ⟨g, hg⟩ : ∃ g, gs[i / 1024]? = some g := ⟨gs[i / 1024]'(by omega), List.getElem?_eq_getElem (by omega)⟩
  have c := hb.itemCell hg (j := i % 1024) (s := s) (by omega) (by rw [show 1024 * (i / 1024) + i % 1024 = i by omega]; exact hi)
  refine ⟨g, hf g (.inr (.inr (List.mem_of_getElem? hg))), c.1, c.2, fun item => ?_, fun m => ?_⟩
  · exact ⟨_, gs, hb.store hil hg item, by simpa using hl, hf, fun k f => ⟨(hlt k f).1, by simpa [World.setCell] using (hlt k f).2⟩⟩
  · refine at_raw P G gs.length g cap (lenAt xs.length (i / 1024)) i (w.drewN m) hb.cell (hb.rowCell hg).1 (by omega) ?_ (by omega)
    unfold lenAt
    omega

/-- 'ZZBlocksAt_yamlg2', out of what 'at' does -/
theorem zat2_of {w : World} {P i g o : Nat} (h : ∀ m, Calls Try.prog 27 #[.pointer (some ⟨P, 0, none⟩), .int .i64 i] (w.drewN m) fun e w' => e = .returned (.pointer (some ⟨g, o, none⟩)) ∧ w' = w.drewN m) (m : Nat) :
    Calls Try.prog 20 #[.pointer (some ⟨P, 0, none⟩), .int .i64 i] (w.drewN m) fun e w' => e = .returned (.pointer (some ⟨g, o, none⟩)) ∧ w' = w.drewN m := by
  have H : Hid _ := h
  clear h
  go_enter Try.func20, Try.ntmps20
  go_wp2_with fail
  refine (H.out m).mono ?_
  rintro e w' ⟨rfl, rfl⟩
  go_wp2
  go_ret
  exact ⟨rfl, rfl⟩
/-- 'ZZBlocksAt', out of what 'at' does -/
theorem zat1_of {w : World} {P i g o : Nat} {s : ByteArray} (h : ∀ m, Calls Try.prog 27 #[.pointer (some ⟨P, 0, none⟩), .int .i64 i] (w.drewN m) fun e w' => e = .returned (.pointer (some ⟨g, o, none⟩)) ∧ w' = w.drewN m) (hc : w.cell? ⟨g, o, none⟩ = some (.string s)) (m : Nat) :
    Calls Try.prog 13 #[.pointer (some ⟨P, 0, none⟩), .int .i64 i] (w.drewN m) fun e w' => e = .returned (.string s) ∧ w' = w.drewN m := by
  have H : Hid _ := h
  clear h
  go_enter Try.func13, Try.ntmps13
  go_wp2_with fail
  refine (H.out m).mono ?_
  rintro e w' ⟨rfl, rfl⟩
  go_wp2
  go_ret
  exact ⟨rfl, rfl⟩
end Go.Proofs.Qxb6003690a
