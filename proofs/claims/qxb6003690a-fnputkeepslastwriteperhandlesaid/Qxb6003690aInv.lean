/- A law's own view: the list beside a clone of the items. -/
import Derived.Test.Qxb6003690aOps
import Derived.Test.Qxb6003690aGuards
namespace Go.Proofs.Qxb6003690a
open Go.RowKit Go.Deep
set_option linter.unusedVariables false

/-- the first k items -/
def pre (f : Nat → ByteArray) (k : Nat) : List ByteArray := (List.range k).map f
theorem pre_length (f : Nat → ByteArray) (k : Nat) : (pre f k).length = k := by simp [pre]
theorem pre_succ (f : Nat → ByteArray) (k : Nat) : pre f (k + 1) = pre f k ++ [f k] := by simp [pre, List.range_succ]
theorem pre_at (f : Nat → ByteArray) {k i : Nat} (h : i < k) : (pre f k)[i]? = some (f i) := by simp [pre, h]

/-- a new empty list at the heap's end -/
theorem Blks.new (w : World) (B : Nat) (hB : B ≤ w.heap.size) : Blks (w.alloc (.cells #[.slice none 0 0] 41)) B w.heap.size (fun k => k = w.heap.size) [] := by
  refine ⟨.slice none 0 0, [], ⟨?_, ?_, hB, World.ownsRow_nil _ _ _ _, by simp, by simp, by simp, by simp, by simp [Value.ownBlock], by simp, by simp⟩, rfl, ?_, ?_⟩
  · simp
  · simp
  · intro k f
    rcases f with f | f | f
    · exact f
    · simp [Value.ownBlock] at f
    · simp at f
  · intro k f
    subst f
    exact ⟨hB, by simp⟩

structure Inv (B P C len : Nat) (f : Nat → Value) (xs : List ByteArray) (w0 wr : World) : Prop where
  blks : ∃ F, Blks wr B P F xs ∧ ¬ F C
  clone : ∀ j, j < len → wr.cell? ⟨C, j, none⟩ = some (f j)
  hC : C < wr.heap.size
  hB : B ≤ wr.heap.size
  below : Below B w0 wr

section
variable {B P C len : Nat} {f : Nat → Value} {xs : List ByteArray} {w0 wr : World}

theorem Inv.still (h : Inv B P C len f xs w0 wr) {w' : World} (k : Kept NoF wr w') : Inv B P C len f xs w0 w' := by
  obtain ⟨F, hb, hF⟩ := h.blks
  exact ⟨⟨F, hb.still k, hF⟩, fun j hj => (k.cell (p := ⟨C, j, none⟩) h.hC (fun x => x)).trans (h.clone j hj), Nat.lt_of_lt_of_le h.hC k.size, Nat.le_trans h.hB k.size, h.below.trans (k.below h.hB (fun _ x => x.elim))⟩

theorem Inv.turned (h : Inv B P C len f xs w0 wr) {F : Nat → Prop} {xs' : List ByteArray} {w' : World} (hb : Blks wr B P F xs) (hF : ¬ F C) (ha : Added wr B P F xs' w') : Inv B P C len f xs' w0 w' := by
  obtain ⟨F', hb', k, hF'⟩ := ha
  refine ⟨⟨F', hb', fun x => ?_⟩, fun j hj => (k.cell (p := ⟨C, j, none⟩) h.hC hF).trans (h.clone j hj), Nat.lt_of_lt_of_le h.hC k.size, Nat.le_trans h.hB k.size, h.below.trans (k.below h.hB (fun i x => (hb.lt i x).1))⟩
  rcases hF' C x with g | g
  · exact hF g
  · have := h.hC; omega

theorem Inv.zlen (h : Inv B P C len f xs w0 wr) (hn : xs.length ≤ 900000) : Calls Try.prog 11 #[.pointer (some ⟨P, 0, none⟩)] wr fun e w' => e = .returned (.int .i64 (xs.length : Int)) ∧ Inv B P C len f xs w0 w' := by
  obtain ⟨F, hb, hF⟩ := h.blks
  exact (hb.zlen (by omega)).mono fun e w' ⟨he, k⟩ => ⟨he, h.still k⟩

theorem Inv.zadd (h : Inv B P C len f xs w0 wr) (hn : xs.length ≤ 900000) (item : ByteArray) : Calls Try.prog 12 #[.pointer (some ⟨P, 0, none⟩), .string item] wr fun e w' => e = .returned (.int .i64 (xs.length : Int)) ∧ Inv B P C len f (xs ++ [item]) w0 w' := by
  obtain ⟨F, hb, hF⟩ := h.blks
  exact (hb.zadd hn item).mono fun e w' ⟨he, k⟩ => ⟨he, h.turned hb hF k⟩

theorem Inv.at (h : Inv B P C len f xs w0 wr) (hn : xs.length ≤ 900000) (i : Nat) (s : ByteArray) (hi : xs[i]? = some s) :
    ∃ g, wr.cell? ⟨g, i % 1024, none⟩ = some (.string s) ∧ ∀ m, Calls Try.prog 27 #[.pointer (some ⟨P, 0, none⟩), .int .i64 i] (wr.drewN m) fun e w' => e = .returned (.pointer (some ⟨g, i % 1024, none⟩)) ∧ w' = wr.drewN m := by
  obtain ⟨F, hb, hF⟩ := h.blks
  obtain ⟨g, _, hc, _, _, hcall⟩ := hb.at (by omega) i s hi
  exact ⟨g, hc, hcall⟩
end

/-- at the start: the clone lies at w.heap.size, the new list behind it -/
theorem Inv.start {w w1 : World} {len : Nat} {f : Nat → Value} (hc : Cloned f len w w1) : Inv w.heap.size w1.heap.size w.heap.size len f [] w (w1.alloc (.cells #[.slice none 0 0] 41)) := by
  obtain ⟨hcell, hb, hs⟩ := hc
  refine ⟨⟨_, Blks.new w1 w.heap.size (by omega), by show ¬ (w.heap.size = w1.heap.size); omega⟩, fun j hj => ?_, by simp; omega, by simp; omega, hb.alloc (by omega) _⟩
  rw [World.cell?_alloc_lt _ _ _ hs]
  exact hcell j hj
end Go.Proofs.Qxb6003690a
