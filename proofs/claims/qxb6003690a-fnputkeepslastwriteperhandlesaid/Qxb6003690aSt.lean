/- The state of FnBlocksPutKeepsHandles: the list, the model, the handles, the two clones. No walk here. -/
import Derived.Test.Qxb6003690aInv
namespace Go.Proofs.Qxb6003690a
open Go.RowKit
set_option linter.unusedVariables false

def strV (ms : List ByteArray) : List Value := ms.map Value.string
theorem strV_length (ms : List ByteArray) : (strV ms).length = ms.length := by simp [strV]

theorem ownsRow_kept {w w' : World} {base : Nat} {e : TypeId} {size : Nat} {v : Value} {n : Nat} {ys : List Value} {F : Nat → Prop} (h : w.ownsRow base e size v n ys) (k : Kept F w w') (hv : ∀ i, v.ownBlock = some i → ¬ F i) : w'.ownsRow base e size v n ys := by
  refine ⟨h.1, ?_⟩
  rcases h.2 with hn | ⟨g, cap, cur, rfl, hb, hg, rest⟩
  · exact .inl hn
  · exact .inr ⟨g, cap, cur, rfl, hb, (k.block g (Array.getElem?_eq_some_iff.1 hg).1 (hv g rfl)).trans hg, rest⟩

def upd (hd : Nat → Nat) (s n : Nat) : Nat → Nat := fun t => if t = s then n else hd t

structure St (w0 : World) (B P V S Hb n : Nat) (f : Nat → ByteArray) (sl : Nat → Int) (v : Value) (xs ms : List ByteArray) (hd : Nat → Nat) (wr : World) : Prop where
  blks : ∃ F, Blks wr B P F xs ∧ ¬ F Hb ∧ ¬ F V ∧ ¬ F S ∧ ∀ k, v.ownBlock = some k → ¬ F k
  model : wr.ownsRow B 9 1 v ms.length (strV ms)
  apH : v.ownBlock ≠ some Hb
  apV : v.ownBlock ≠ some V
  apS : v.ownBlock ≠ some S
  hcell : ∀ s, s < 2048 → wr.cell? ⟨Hb, s, none⟩ = some (.int .i32 (hd s : Int))
  hfro : ∀ s, wr.frozen? ⟨Hb, s, none⟩ = false
  le : ∀ s, s < 2048 → hd s ≤ xs.length
  inj : ∀ s s', s < 2048 → s' < 2048 → hd s = hd s' → hd s ≠ 0 → s = s'
  vals : ∀ j, j < n → wr.cell? ⟨V, j, none⟩ = some (.string (f j))
  slots : ∀ j, j < n → wr.cell? ⟨S, j, none⟩ = some (.int .u16 (sl j))
  ltH : Hb < wr.heap.size
  ltV : V < wr.heap.size
  ltS : S < wr.heap.size
  hB : B ≤ wr.heap.size
  geH : B ≤ Hb
  neV : 0 < n → Hb ≠ V
  neS : 0 < n → Hb ≠ S
  below : Below B w0 wr

section
variable {w0 : World} {B P V S Hb n : Nat} {f : Nat → ByteArray} {sl : Nat → Int} {v : Value} {xs ms : List ByteArray} {hd : Nat → Nat} {wr : World}

/-- a step that leaves the handles, the clones and the model alone -/
theorem St.kept (h : St w0 B P V S Hb n f sl v xs ms hd wr) {F' : Nat → Prop} {w' : World} {xs' : List ByteArray} (k : Kept F' wr w') (hFB : ∀ i, F' i → B ≤ i) (hH : ¬ F' Hb) (hV : 0 < n → ¬ F' V) (hS : 0 < n → ¬ F' S) (hv : ∀ i, v.ownBlock = some i → ¬ F' i)
    (hb : ∃ F, Blks w' B P F xs' ∧ ¬ F Hb ∧ ¬ F V ∧ ¬ F S ∧ ∀ k, v.ownBlock = some k → ¬ F k) (hl : xs.length ≤ xs'.length) : St w0 B P V S Hb n f sl v xs' ms hd w' :=
  ⟨hb, ownsRow_kept h.model k hv, h.apH, h.apV, h.apS, fun s hs => (k.cell (p := ⟨Hb, s, none⟩) h.ltH hH).trans (h.hcell s hs), fun s => (k.frozen (p := ⟨Hb, s, none⟩) h.ltH hH).trans (h.hfro s),
    fun s hs => Nat.le_trans (h.le s hs) hl, h.inj, fun j hj => (k.cell (p := ⟨V, j, none⟩) h.ltV (hV (by omega))).trans (h.vals j hj), fun j hj => (k.cell (p := ⟨S, j, none⟩) h.ltS (hS (by omega))).trans (h.slots j hj),
    Nat.lt_of_lt_of_le h.ltH k.size, Nat.lt_of_lt_of_le h.ltV k.size, Nat.lt_of_lt_of_le h.ltS k.size, Nat.le_trans h.hB k.size, h.geH, h.neV, h.neS, h.below.trans (k.below h.hB hFB)⟩

theorem St.still (h : St w0 B P V S Hb n f sl v xs ms hd wr) {w' : World} (k : Kept NoF wr w') : St w0 B P V S Hb n f sl v xs ms hd w' := by
  obtain ⟨F, hb, h1, h2, h3, h4⟩ := h.blks
  exact h.kept k (fun _ x => x.elim) (fun x => x) (fun _ x => x) (fun _ x => x) (fun _ _ x => x) ⟨F, hb.still k, h1, h2, h3, h4⟩ (Nat.le_refl _)

/-- an item has been added to the list -/
theorem St.added (h : St w0 B P V S Hb n f sl v xs ms hd wr) {F : Nat → Prop} {w' : World} {xs' : List ByteArray} (hb : Blks wr B P F xs) (h1 : ¬ F Hb) (h2 : ¬ F V) (h3 : ¬ F S) (h4 : ∀ k, v.ownBlock = some k → ¬ F k) (ha : Added wr B P F xs' w') (hl : xs.length ≤ xs'.length) : St w0 B P V S Hb n f sl v xs' ms hd w' := by
  obtain ⟨F', hb', k, hF'⟩ := ha
  have out : ∀ i, i < wr.heap.size → ¬ F i → ¬ F' i := fun i hi hn x => by
    rcases hF' i x with g | g
    · exact hn g
    · omega
  exact h.kept k (fun i x => (hb.lt i x).1) h1 (fun _ => h2) (fun _ => h3) h4 ⟨F', hb', out _ h.ltH h1, out _ h.ltV h2, out _ h.ltS h3, fun i hi => out i (h.model.lt i hi).2 (h4 i hi)⟩ hl

/-- a handle is set -/
theorem St.setH (h : St w0 B P V S Hb n f sl v xs ms hd wr) {s m : Nat} (hs : s < 2048) (hm : m ≤ xs.length) (hnew : ∀ t, t < 2048 → t ≠ s → hd t ≠ m ∨ m = 0) : St w0 B P V S Hb n f sl v xs ms (upd hd s m) (wr.setCell ⟨Hb, s, none⟩ (.int .i32 (m : Int))) := by
  obtain ⟨F, hb, h1, h2, h3, h4⟩ := h.blks
  have k : Kept (fun i => i = Hb) wr (wr.setCell ⟨Hb, s, none⟩ (.int .i32 (m : Int))) := (Kept.refl (fun i => i = Hb) wr).setCell (p := ⟨Hb, s, none⟩) (fun _ => rfl) _
  refine ⟨⟨F, hb.kept k (fun i x e => h1 (by rw [← e]; exact x)), h1, h2, h3, h4⟩, ownsRow_kept h.model k (fun i hi e => h.apH (by rw [hi, e])), h.apH, h.apV, h.apS, ?_, fun t => by rw [World.frozen?_setCell]; exact h.hfro t, ?_, ?_,
    fun j hj => (k.cell (p := ⟨V, j, none⟩) h.ltV (fun e => h.neV (by omega) e.symm)).trans (h.vals j hj), fun j hj => (k.cell (p := ⟨S, j, none⟩) h.ltS (fun e => h.neS (by omega) e.symm)).trans (h.slots j hj),
    Nat.lt_of_lt_of_le h.ltH k.size, Nat.lt_of_lt_of_le h.ltV k.size, Nat.lt_of_lt_of_le h.ltS k.size, Nat.le_trans h.hB k.size, h.geH, h.neV, h.neS, h.below.setCell h.geH _⟩
  · intro t ht
    by_cases e : t = s
    · subst e
      rw [World.cell?_setCell_same _ _ _ (h.hcell t ht)]
      simp [upd]
    · rw [World.cell?_setCell_other _ _ _ _ (by intro q; injection q; omega), h.hcell t ht]
      simp [upd, e]
  · intro t ht
    unfold upd
    split
    · exact hm
    · exact h.le t ht
  · intro t t' ht ht' he hne
    unfold upd at he hne
    by_cases e : t = s
    · by_cases e' : t' = s
      · omega
      · rw [if_pos e, if_neg e'] at he
        rw [if_pos e] at hne
        rcases hnew t' ht' e' with q | q
        · exact absurd he.symm q
        · exact absurd q hne
    · by_cases e' : t' = s
      · rw [if_neg e, if_pos e'] at he
        rw [if_neg e] at hne
        rcases hnew t ht e with q | q
        · exact absurd he q
        · exact absurd (he.trans q) hne
      · rw [if_neg e, if_neg e'] at he
        rw [if_neg e] at hne
        exact h.inj t t' ht ht' he hne

/-- the model grows by one -/
theorem St.grow (h : St w0 B P V S Hb n f sl v xs ms hd wr) {X : Obj} {item : ByteArray} {g cap : Nat} {w3 : World} (hown : w3.ownsRow B 9 1 (.slice (some ⟨g, 0, none⟩) (ms.length + 1) cap) (ms.length + 1) (strV ms ++ [.string item]))
    (hgrow : (wr.alloc X).grownBy w3 v.ownBlock) (hat : v.ownBlock = some g ∨ g = wr.heap.size + 1) : St w0 B P V S Hb n f sl (.slice (some ⟨g, 0, none⟩) (ms.length + 1) cap) xs (ms ++ [item]) hd w3 := by
  obtain ⟨F, hb, h1, h2, h3, h4⟩ := h.blks
  have k : Kept (fun i => v.ownBlock = some i) wr w3 := ((Kept.refl _ wr).alloc X).grown hgrow (fun i e _ => e)
  have ne : ∀ i, i < wr.heap.size → v.ownBlock ≠ some i → (Value.slice (some ⟨g, 0, none⟩) (ms.length + 1) cap).ownBlock ≠ some i := fun i hi hne e => by
    have e' : g = i := by simpa [Value.ownBlock] using e
    rcases hat with q | q
    · exact hne (by rw [q, e'])
    · omega
  refine ⟨⟨F, hb.kept k (fun i x e => h4 i e x), h1, h2, h3, fun i hi x => ?_⟩, ?_, ne Hb h.ltH h.apH, ne V h.ltV h.apV, ne S h.ltS h.apS, fun s hs => (k.cell (p := ⟨Hb, s, none⟩) h.ltH h.apH).trans (h.hcell s hs), fun s => (k.frozen (p := ⟨Hb, s, none⟩) h.ltH h.apH).trans (h.hfro s),
    h.le, h.inj, fun j hj => (k.cell (p := ⟨V, j, none⟩) h.ltV h.apV).trans (h.vals j hj), fun j hj => (k.cell (p := ⟨S, j, none⟩) h.ltS h.apS).trans (h.slots j hj),
    Nat.lt_of_lt_of_le h.ltH k.size, Nat.lt_of_lt_of_le h.ltV k.size, Nat.lt_of_lt_of_le h.ltS k.size, Nat.le_trans h.hB k.size, h.geH, h.neV, h.neS, h.below.trans (k.below h.hB (fun i e => (h.model.lt i e).1))⟩
  · have := (hb.lt i x).2
    by_cases e : v.ownBlock = some i
    · exact h4 i e x
    · exact ne i this e hi
  · have e : strV (ms ++ [item]) = strV ms ++ [.string item] := by simp [strV]
    rw [e, List.length_append]
    exact hown

/-- an item of the model is overwritten -/
theorem St.setModel {G cap : Nat} (h : St w0 B P V S Hb n f sl (.slice (some ⟨G, 0, none⟩) ms.length cap) xs ms hd wr) {i : Nat} (item : ByteArray) : St w0 B P V S Hb n f sl (.slice (some ⟨G, 0, none⟩) ms.length cap) xs (ms.set i item) hd (wr.setCell ⟨G, i, none⟩ (.string item)) := by
  obtain ⟨F, hb, h1, h2, h3, h4⟩ := h.blks
  have k : Kept (fun i => i = G) wr (wr.setCell ⟨G, i, none⟩ (.string item)) := (Kept.refl (fun i => i = G) wr).setCell (p := ⟨G, i, none⟩) (fun _ => rfl) _
  have nG : ∀ x, (Value.slice (some ⟨G, 0, none⟩) ms.length cap).ownBlock ≠ some x → x ≠ G := fun x hx e => hx (by rw [e]; rfl)
  have st := (h.model.stored i (.string item)).1
  refine ⟨⟨F, hb.kept k (fun i x e => h4 i (by rw [e]; rfl) x), h1, h2, h3, h4⟩, ?_, h.apH, h.apV, h.apS, fun s hs => (k.cell (p := ⟨Hb, s, none⟩) h.ltH (nG _ h.apH)).trans (h.hcell s hs), fun s => by rw [World.frozen?_setCell]; exact h.hfro s,
    h.le, h.inj, fun j hj => (k.cell (p := ⟨V, j, none⟩) h.ltV (nG _ h.apV)).trans (h.vals j hj), fun j hj => (k.cell (p := ⟨S, j, none⟩) h.ltS (nG _ h.apS)).trans (h.slots j hj),
    Nat.lt_of_lt_of_le h.ltH k.size, Nat.lt_of_lt_of_le h.ltV k.size, Nat.lt_of_lt_of_le h.ltS k.size, Nat.le_trans h.hB k.size, h.geH, h.neV, h.neS, h.below.trans (k.below h.hB (fun i e => (h.model.lt i (by rw [e]; rfl)).1))⟩
  have e : strV (ms.set i item) = (strV ms).set i (.string item) := by simp [strV, List.map_set]
  rw [e, List.length_set]
  exact st

theorem St.modelCell {G cap : Nat} (h : St w0 B P V S Hb n f sl (.slice (some ⟨G, 0, none⟩) ms.length cap) xs ms hd wr) {i : Nat} {s : ByteArray} (hi : ms[i]? = some s) : wr.cell? ⟨G, i, none⟩ = some (.string s) ∧ wr.frozen? ⟨G, i, none⟩ = false := by
  have hlt : i < ms.length := (List.getElem?_eq_some_iff.1 hi).1
  refine ⟨?_, h.model.frozenAt i⟩
  rw [h.model.cellAt i (by omega)]
  simp [strV, hi]

/-- the tail: a row of owners at the heap's end, the clones forgotten -/
theorem St.tail (h : St w0 B P V S Hb n f sl v xs ms hd wr) (o : Obj) : St w0 B P wr.heap.size wr.heap.size Hb 0 f sl v xs ms hd (wr.alloc o) := by
  obtain ⟨F, hb, h1, h2, h3, h4⟩ := h.blks
  have k : Kept NoF wr (wr.alloc o) := (Kept.refl _ wr).alloc o
  have s := h.still k
  have nF : ¬ F wr.heap.size := fun x => by have := (hb.lt _ x).2; omega
  have nv : v.ownBlock ≠ some wr.heap.size := fun e => by have := (h.model.lt _ e).2; omega
  exact ⟨⟨F, hb.still k, h1, nF, nF, h4⟩, s.model, s.apH, nv, nv, s.hcell, s.hfro, s.le, s.inj, fun j hj => by omega, fun j hj => by omega, s.ltH, by simp, by simp, s.hB, s.geH, fun q => by omega, fun q => by omega, s.below⟩

/-- a store into the row of owners -/
theorem St.setV (h : St w0 B P V V Hb 0 f sl v xs ms hd wr) (hne : Hb ≠ V) (hBV : B ≤ V) (j : Nat) (u : Value) : St w0 B P V V Hb 0 f sl v xs ms hd (wr.setCell ⟨V, j, none⟩ u) := by
  obtain ⟨F, hb, h1, h2, h3, h4⟩ := h.blks
  have k : Kept (fun i => i = V) wr (wr.setCell ⟨V, j, none⟩ u) := (Kept.refl (fun i => i = V) wr).setCell (p := ⟨V, j, none⟩) (fun _ => rfl) _
  exact h.kept k (fun i e => by rw [e]; exact hBV) hne (fun q => by omega) (fun q => by omega) (fun i hi e => h.apV (by rw [hi, e])) ⟨F, hb.kept k (fun i x e => h2 (by rw [← e]; exact x)), h1, h2, h3, h4⟩ (Nat.le_refl _)
end
end Go.Proofs.Qxb6003690a
