/- The list of blocks in memory: what it is, and what each step does to it. No walk here. -/
import Derived.Test.Qxb6003690aRows
import Derived.WalkKit
import Derived.WalkSpells
import Derived.Deep.AppendLies
namespace Go.Proofs.Qxb6003690a
open Go.RowKit
set_option linter.unusedVariables false

/-- Outside F, of what was there, nothing has turned. -/
structure Kept (F : Nat → Prop) (w w' : World) : Prop where
  os : w'.os = w.os
  tape : w'.tape = w.tape
  output : w'.output = w.output
  size : w.heap.size ≤ w'.heap.size
  block : ∀ k, k < w.heap.size → ¬ F k → w'.heap[k]? = w.heap[k]?

theorem Kept.refl (F : Nat → Prop) (w : World) : Kept F w w := ⟨rfl, rfl, rfl, Nat.le_refl _, fun _ _ _ => rfl⟩
theorem Kept.trans {F F' : Nat → Prop} {a b c : World} (h : Kept F a b) (k : Kept F' b c) (hF : ∀ k, k < a.heap.size → F' k → F k) : Kept F a c :=
  ⟨k.os.trans h.os, k.tape.trans h.tape, k.output.trans h.output, Nat.le_trans h.size k.size, fun i hi hn => (k.block i (Nat.lt_of_lt_of_le hi h.size) (fun x => hn (hF i hi x))).trans (h.block i hi hn)⟩
theorem Kept.mono {F F' : Nat → Prop} {a b : World} (h : Kept F a b) (hF : ∀ k, F k → F' k) : Kept F' a b :=
  ⟨h.os, h.tape, h.output, h.size, fun i hi hn => h.block i hi (fun x => hn (hF i x))⟩
theorem Kept.drew {F : Nat → Prop} {a b : World} (h : Kept F a b) : Kept F a b.drew := ⟨h.os, h.tape, h.output, h.size, h.block⟩
theorem Kept.alloc {F : Nat → Prop} {a b : World} (h : Kept F a b) (o : Obj) : Kept F a (b.alloc o) :=
  ⟨h.os, h.tape, h.output, Nat.le_trans h.size (by simp), fun i hi hn => (Below.heap_alloc b o i (Nat.lt_of_lt_of_le hi h.size)).trans (h.block i hi hn)⟩
theorem Kept.setCell {F : Nat → Prop} {a b : World} (h : Kept F a b) {p : Addr} (hp : p.block < a.heap.size → F p.block) (u : Value) : Kept F a (b.setCell p u) :=
  ⟨h.os, h.tape, h.output, Nat.le_trans h.size (by simp [World.setCell]), fun i hi hn => (Below.heap_setCell b p u i (fun e => hn (by subst e; exact hp hi))).trans (h.block i hi hn)⟩
theorem Kept.grown {F : Nat → Prop} {a b c : World} (h : Kept F a b) {row : Option Nat} (hg : b.grownBy c row) (hr : ∀ k, row = some k → k < a.heap.size → F k) : Kept F a c :=
  ⟨hg.os.trans h.os, hg.tape.trans h.tape, hg.output.trans h.output, Nat.le_trans h.size hg.size, fun i hi hn => (hg.block i (Nat.lt_of_lt_of_le hi h.size) (fun e => hn (hr i e.symm hi))).trans (h.block i hi hn)⟩
theorem Kept.cell {F : Nat → Prop} {w w' : World} (h : Kept F w w') {p : Addr} (hp : p.block < w.heap.size) (hn : ¬ F p.block) : w'.cell? p = w.cell? p := World.cell?_of_block (h.block p.block hp hn)
theorem Kept.frozen {F : Nat → Prop} {w w' : World} (h : Kept F w w') {p : Addr} (hp : p.block < w.heap.size) (hn : ¬ F p.block) : w'.frozen? p = w.frozen? p := World.frozen?_of_block (h.block p.block hp hn)
theorem Kept.below {F : Nat → Prop} {w w' : World} (h : Kept F w w') {B : Nat} (hB : B ≤ w.heap.size) (hF : ∀ k, F k → B ≤ k) : Below B w w' :=
  ⟨h.os, h.tape, h.output, h.size, fun k hk => h.block k (by omega) (fun x => by have := hF k x; omega)⟩

/-- how many of n items lie in block i -/
def lenAt (n i : Nat) : Nat := min 1024 (n - 1024 * i)
def rowVal (n i g : Nat) : Value := .slice (some ⟨g, 0, none⟩) (lenAt n i) 1024
def rowVals (n : Nat) (gs : List Nat) : List Value := gs.mapIdx (rowVal n)
theorem rowVals_at (n : Nat) (gs : List Nat) (i : Nat) : (rowVals n gs)[i]? = gs[i]?.map (rowVal n i) := by simp [rowVals, List.getElem?_mapIdx]
theorem rowVals_length (n : Nat) (gs : List Nat) : (rowVals n gs).length = gs.length := by simp [rowVals]

/-- block g holds the items of block number i -/
def Inner (w : World) (g i : Nat) (xs : List ByteArray) : Prop :=
  ∃ cur : Array Value, w.heap[g]? = some (.cells cur 9) ∧ cur.size = 1024 ∧ ∀ j s, j < 1024 → xs[1024 * i + j]? = some s → cur[j]? = some (.string s)

structure Blk (w : World) (B P : Nat) (v : Value) (gs : List Nat) (xs : List ByteArray) : Prop where
  cell : w.cell? ⟨P, 0, none⟩ = some v
  fro : w.frozen? ⟨P, 0, none⟩ = false
  hP : B ≤ P
  own : w.ownsRow B 22 1 v gs.length (rowVals xs.length gs)
  room : xs.length ≤ 1024 * gs.length
  full : 1024 * (gs.length - 1) ≤ xs.length
  inner : ∀ i g, gs[i]? = some g → B ≤ g ∧ Inner w g i xs
  ap1 : P ∉ gs
  ap2 : v.ownBlock ≠ some P
  ap3 : ∀ g, g ∈ gs → v.ownBlock ≠ some g
  nodup : gs.Nodup

/-- the blocks that the list takes up -/
def Foot (P : Nat) (v : Value) (gs : List Nat) (k : Nat) : Prop := k = P ∨ v.ownBlock = some k ∨ k ∈ gs

theorem Inner.lt {w : World} {g i : Nat} {xs : List ByteArray} (h : Inner w g i xs) : g < w.heap.size := by
  obtain ⟨cur, hh, _⟩ := h
  exact (Array.getElem?_eq_some_iff.1 hh).1
theorem Inner.same {w w' : World} {g i : Nat} {xs : List ByteArray} (h : Inner w g i xs) (e : w'.heap[g]? = w.heap[g]?) : Inner w' g i xs := by
  obtain ⟨cur, hh, r⟩ := h
  exact ⟨cur, e.trans hh, r⟩

section
variable {w : World} {B P : Nat} {v : Value} {gs : List Nat} {xs : List ByteArray}

theorem Blk.lt (h : Blk w B P v gs xs) : ∀ k, Foot P v gs k → B ≤ k ∧ k < w.heap.size := by
  intro k hk
  rcases hk with rfl | hk | hk
  · exact ⟨h.hP, World.block_lt_of_cell? w _ h.cell⟩
  · exact h.own.lt k hk
  · obtain ⟨i, hi⟩ := List.getElem?_of_mem hk
    exact ⟨(h.inner i k hi).1, (h.inner i k hi).2.lt⟩

/-- the same, in a world that has turned outside the list's own blocks alone -/
theorem Blk.kept (h : Blk w B P v gs xs) {F : Nat → Prop} {w' : World} (hk : Kept F w w') (hF : ∀ k, Foot P v gs k → ¬ F k) : Blk w' B P v gs xs := by
  have same : ∀ k, Foot P v gs k → w'.heap[k]? = w.heap[k]? := fun k f => hk.block k (h.lt k f).2 (hF k f)
  refine ⟨(World.cell?_of_block (same P (.inl rfl))).trans h.cell, (World.frozen?_of_block (same P (.inl rfl))).trans h.fro, h.hP, ⟨h.own.1, ?_⟩, h.room, h.full, ?_, h.ap1, h.ap2, h.ap3, h.nodup⟩
  · rcases h.own.2 with hn | ⟨g, cap, cur, rfl, hb, hg, rest⟩
    · exact .inl hn
    · exact .inr ⟨g, cap, cur, rfl, hb, (same g (.inr (.inl rfl))).trans hg, rest⟩
  · intro i g hi
    exact ⟨(h.inner i g hi).1, (h.inner i g hi).2.same (same g (.inr (.inr (List.mem_of_getElem? hi))))⟩

theorem Blk.alloc (h : Blk w B P v gs xs) (o : Obj) : Blk (w.alloc o) B P v gs xs := h.kept (F := fun _ => False) ((Kept.refl _ _).alloc o) (fun _ _ f => f)
theorem Blk.drew (h : Blk w B P v gs xs) : Blk w.drew B P v gs xs := h.kept (F := fun _ => False) ((Kept.refl _ _).drew) (fun _ _ f => f)

/-- the list's value, once there is a block -/
theorem Blk.form (h : Blk w B P v gs xs) (hn : 0 < gs.length) : ∃ G cap, v = .slice (some ⟨G, 0, none⟩) gs.length cap ∧ G < w.heap.size := by
  obtain ⟨g, cap, hv, _, hlt⟩ := h.own.form hn
  exact ⟨g, cap, hv, hlt⟩

theorem Blk.rowCell {G cap : Nat} (h : Blk w B P (.slice (some ⟨G, 0, none⟩) gs.length cap) gs xs) {i g : Nat} (hi : gs[i]? = some g) : w.cell? ⟨G, i, none⟩ = some (rowVal xs.length i g) ∧ w.frozen? ⟨G, i, none⟩ = false := by
  have hlt : i < gs.length := (List.getElem?_eq_some_iff.1 hi).1
  refine ⟨?_, h.own.frozenAt i⟩
  rw [h.own.cellAt i (by omega), rowVals_at, hi]
  rfl

theorem Blk.itemCell (h : Blk w B P v gs xs) {i g j : Nat} (hi : gs[i]? = some g) {s : ByteArray} (hj : j < 1024) (hs : xs[1024 * i + j]? = some s) : w.cell? ⟨g, j, none⟩ = some (.string s) ∧ w.frozen? ⟨g, j, none⟩ = false := by
  obtain ⟨_, cur, hh, hsz, hc⟩ := h.inner i g hi
  exact ⟨(cell_of_row w g j cur 9 _ hh).trans (hc j s hj hs), frozen_of_row w g j cur 9 hh⟩

theorem Blk.spareCell (h : Blk w B P v gs xs) {i g j : Nat} (hi : gs[i]? = some g) (hj : j < 1024) : (w.cell? ⟨g, j, none⟩).isSome = true ∧ w.frozen? ⟨g, j, none⟩ = false := by
  obtain ⟨_, cur, hh, hsz, hc⟩ := h.inner i g hi
  refine ⟨?_, frozen_of_row w g j cur 9 hh⟩
  rw [cell_of_row w g j cur 9 _ hh, Array.getElem?_eq_getElem (by omega)]
  rfl

theorem rowVals_push {n g : Nat} {gs : List Nat} (hl : 0 < gs.length) (hg : gs[gs.length - 1]? = some g) (h1 : 1024 * (gs.length - 1) ≤ n) : rowVals (n + 1) gs = (rowVals n gs).set (gs.length - 1) (rowVal (n + 1) (gs.length - 1) g) := by
  apply List.ext_getElem?
  intro i
  rw [rowVals_at, List.getElem?_set, rowVals_at, rowVals_length]
  by_cases e : gs.length - 1 = i
  · subst e
    simp [hg]
    omega
  · rw [if_neg e]
    rcases Nat.lt_or_ge i gs.length with hi | hi
    · rw [List.getElem?_eq_getElem hi]
      simp only [Option.map_some, rowVal, lenAt]
      congr 2
      omega
    · rw [List.getElem?_eq_none hi]; rfl

/-- ADD, the second half: the item is laid into the last block, and that block's slice grows by one. -/
theorem Blk.push {G cap g : Nat} (h : Blk w B P (.slice (some ⟨G, 0, none⟩) gs.length cap) gs xs) (hl : 0 < gs.length) (hg : gs[gs.length - 1]? = some g) (hr : xs.length < 1024 * gs.length) (item : ByteArray) :
    Blk ((w.setCell ⟨g, xs.length - 1024 * (gs.length - 1), none⟩ (.string item)).setCell ⟨G, gs.length - 1, none⟩ (.slice (some ⟨g, 0, none⟩) (xs.length - 1024 * (gs.length - 1) + 1) 1024)) B P (.slice (some ⟨G, 0, none⟩) gs.length cap) gs (xs ++ [item]) := by
  have hf := h.full
  have hgG : g ≠ G := fun e => h.ap3 g (List.mem_of_getElem? hg) (by rw [e]; rfl)
  have hPg : P ≠ g := fun e => h.ap1 (by rw [e]; exact List.mem_of_getElem? hg)
  have hPG : P ≠ G := fun e => h.ap2 (by rw [e]; rfl)
  have hlt := h.lt
  -- the block of the item
  obtain ⟨hBg, cur, hh, hsz, hc⟩ := h.inner _ g hg
  have own1 : (w.setCell ⟨g, xs.length - 1024 * (gs.length - 1), none⟩ (.string item)).ownsRow B 22 1 (.slice (some ⟨G, 0, none⟩) gs.length cap) gs.length (rowVals xs.length gs) :=
    h.own.kept (row := some g) ⟨rfl, rfl, rfl, by simp [World.setCell], fun k hk hn => Below.heap_setCell _ _ _ _ (fun e => hn (by rw [e]))⟩ (.inr (by simp [Value.ownBlock]; omega))
  have own2 := (own1.stored (gs.length - 1) (rowVal (xs.length + 1) (gs.length - 1) g)).1
  rw [← rowVals_push hl hg hf] at own2
  have ev : (Value.slice (some ⟨g, 0, none⟩) (xs.length - 1024 * (gs.length - 1) + 1) 1024) = rowVal (xs.length + 1) (gs.length - 1) g := by
    unfold rowVal lenAt
    congr 1
    omega
  rw [ev]
  refine ⟨?_, ?_, h.hP, by simpa using own2, by simp; omega, by simp; omega, ?_, h.ap1, h.ap2, h.ap3, h.nodup⟩
  · rw [World.cell?_of_block (w := w.setCell _ _) (Below.heap_setCell _ _ _ _ hPG), World.cell?_of_block (w := w) (Below.heap_setCell _ _ _ _ hPg)]
    exact h.cell
  · simp [h.fro]
  · intro i k hi
    have hkG : k ≠ G := fun e => h.ap3 k (List.mem_of_getElem? hi) (by rw [e]; rfl)
    refine ⟨(h.inner i k hi).1, ?_⟩
    refine Inner.same (w := w.setCell ⟨g, xs.length - 1024 * (gs.length - 1), none⟩ (.string item)) ?_ (Below.heap_setCell _ _ _ _ hkG)
    by_cases e : k = g
    · subst e
      have ei : i = gs.length - 1 := by
        have := (List.getElem?_inj (List.getElem?_eq_some_iff.1 hi).1 h.nodup).1 (hi.trans hg.symm)
        exact this
      subst ei
      refine ⟨cur.setIfInBounds (xs.length - 1024 * (gs.length - 1)) (.string item), heap_setCell_same w k _ cur 9 _ hh, by simpa using hsz, ?_⟩
      intro j s hj hs
      rw [Array.getElem?_setIfInBounds]
      by_cases ej : xs.length - 1024 * (gs.length - 1) = j
      · rw [if_pos ej, if_pos (by omega)]
        rw [List.getElem?_append_right (by omega)] at hs
        have : 1024 * (gs.length - 1) + j - xs.length = 0 := by omega
        rw [this] at hs
        simp at hs
        rw [hs]
      · rw [if_neg ej]
        refine hc j s hj ?_
        rcases Nat.lt_or_ge (1024 * (gs.length - 1) + j) xs.length with q | q
        · rwa [List.getElem?_append_left q] at hs
        · rw [List.getElem?_append_right q] at hs
          have : 1024 * (gs.length - 1) + j - xs.length ≠ 0 := by omega
          obtain ⟨m, hm⟩ := Nat.exists_eq_succ_of_ne_zero this
          rw [hm] at hs
          simp at hs
    · refine Inner.same (w := w) ?_ (Below.heap_setCell _ _ _ _ e)
      obtain ⟨_, cur', hh', hsz', hc'⟩ := h.inner i k hi
      refine ⟨cur', hh', hsz', fun j s hj hs => hc' j s hj ?_⟩
      have hil : i < gs.length := (List.getElem?_eq_some_iff.1 hi).1
      have : i ≠ gs.length - 1 := fun e' => e (by rw [e'] at hi; rw [hi] at hg; injection hg)
      rwa [List.getElem?_append_left (by omega)] at hs

/-- A STORE THROUGH A POINTER TO AN ITEM. -/
theorem Blk.store (h : Blk w B P v gs xs) {i g : Nat} (hi : i < xs.length) (hg : gs[i / 1024]? = some g) (item : ByteArray) :
    Blk (w.setCell ⟨g, i % 1024, none⟩ (.string item)) B P v gs (xs.set i item) := by
  have hPg : P ≠ g := fun e => h.ap1 (by rw [e]; exact List.mem_of_getElem? hg)
  have hvg := h.ap3 g (List.mem_of_getElem? hg)
  refine ⟨?_, by simp [h.fro], h.hP, ?_, by simpa using h.room, by simpa using h.full, ?_, h.ap1, h.ap2, h.ap3, h.nodup⟩
  · rw [World.cell?_of_block (w := w) (Below.heap_setCell _ _ _ _ hPg)]; exact h.cell
  · rw [List.length_set]
    exact h.own.kept (row := some g) ⟨rfl, rfl, rfl, by simp [World.setCell], fun k hk hn => Below.heap_setCell _ _ _ _ (fun e => hn (by rw [e]))⟩ (.inr hvg)
  · intro i' k hi'
    refine ⟨(h.inner i' k hi').1, ?_⟩
    by_cases e : k = g
    · subst e
      have ei : i' = i / 1024 := (List.getElem?_inj (List.getElem?_eq_some_iff.1 hi').1 h.nodup).1 (hi'.trans hg.symm)
      subst ei
      obtain ⟨_, cur, hh, hsz, hc⟩ := h.inner _ k hi'
      refine ⟨cur.setIfInBounds (i % 1024) (.string item), heap_setCell_same w k _ cur 9 _ hh, by simpa using hsz, ?_⟩
      intro j s hj hs
      rw [Array.getElem?_setIfInBounds]
      rw [List.getElem?_set] at hs
      by_cases ej : i % 1024 = j
      · rw [if_pos ej, if_pos (by omega)]
        rw [if_pos (by omega), if_pos hi] at hs
        injection hs with hs
        rw [hs]
      · rw [if_neg ej]
        rw [if_neg (by omega)] at hs
        exact hc j s hj hs
    · refine Inner.same (w := w) ?_ (Below.heap_setCell _ _ _ _ e)
      obtain ⟨_, cur', hh', hsz', hc'⟩ := h.inner i' k hi'
      refine ⟨cur', hh', hsz', fun j s hj hs => hc' j s hj ?_⟩
      have : i / 1024 ≠ i' := fun e' => e (by rw [← e'] at hi'; rw [hi'] at hg; injection hg)
      rwa [List.getElem?_set, if_neg (by omega)] at hs

/-- the new block's cells -/
def zz : Array Value := madeCells #[.string ByteArray.empty] 1024
theorem zz_size : zz.size = 1024 := size_madeCells _ _

theorem rowVals_grow (n : Nat) (gs : List Nat) (g : Nat) (hn : n = 1024 * gs.length) : rowVals n (gs ++ [g]) = rowVals n gs ++ [.slice (some ⟨g, 0, none⟩) 0 1024] := by
  simp [rowVals, List.mapIdx_append, rowVal, lenAt, hn]

/-- ADD, the first half: a new block of 1024 cells is laid at the heap's end, its empty slice is appended to the list, and the list is stored back. -/
theorem Blk.grow (h : Blk w B P v gs xs) (hx : xs.length = 1024 * gs.length) (hB : B ≤ w.heap.size) {X : Obj} {G cap : Nat} {w1 : World}
    (hown : w1.ownsRow B 22 1 (.slice (some ⟨G, 0, none⟩) (gs.length + 1) cap) (gs.length + 1) (rowVals xs.length gs ++ [.slice (some ⟨w.heap.size, 0, none⟩) 0 1024]))
    (hgrow : ((w.alloc (.cells zz 9)).alloc X).drew.grownBy w1 v.ownBlock) (hat : v.ownBlock = some G ∨ G = w.heap.size + 2) :
    Blk (w1.setCell ⟨P, 0, none⟩ (.slice (some ⟨G, 0, none⟩) (gs.length + 1) cap)) B P (.slice (some ⟨G, 0, none⟩) (gs.length + 1) cap) (gs ++ [w.heap.size]) xs := by
  have lt := h.lt
  have lP := (lt P (.inl rfl)).2
  have hPG : G ≠ P := by
    rcases hat with e | e
    · exact fun e' => h.ap2 (by rw [e, e'])
    · omega
  have hold : ∀ k, k < w.heap.size → v.ownBlock ≠ some k → k ≠ P → (w1.setCell ⟨P, 0, none⟩ (.slice (some ⟨G, 0, none⟩) (gs.length + 1) cap)).heap[k]? = w.heap[k]? := by
    intro k hk hn hkP
    rw [Below.heap_setCell _ _ _ _ hkP, hgrow.block k (by simp; omega) (Ne.symm hn)]
    show ((w.alloc (.cells zz 9)).alloc X).heap[k]? = _
    rw [Below.heap_alloc _ _ _ (by simp; omega), Below.heap_alloc _ _ _ hk]
  have hnew : (w1.setCell ⟨P, 0, none⟩ (.slice (some ⟨G, 0, none⟩) (gs.length + 1) cap)).heap[w.heap.size]? = some (.cells zz 9) := by
    rw [Below.heap_setCell _ _ _ _ (Nat.ne_of_gt lP), hgrow.block w.heap.size (by simp; omega) (fun e => by have := (lt w.heap.size (.inr (.inl e.symm))).2; omega)]
    show ((w.alloc (.cells zz 9)).alloc X).heap[w.heap.size]? = _
    rw [Below.heap_alloc _ _ _ (by simp)]
    exact heap_alloc_new w _
  have hcP : w1.cell? ⟨P, 0, none⟩ = some v := by
    rw [hgrow.cell_far ⟨P, 0, none⟩ (by simp; omega) (Ne.symm h.ap2)]
    show ((w.alloc (.cells zz 9)).alloc X).cell? ⟨P, 0, none⟩ = some v
    rw [World.cell?_alloc_lt _ _ _ (by simp; omega), World.cell?_alloc_lt _ _ _ lP]
    exact h.cell
  refine ⟨World.cell?_setCell_same _ _ _ hcP, ?_, h.hP, ?_, by simp; omega, by simp; omega, ?_, ?_, ?_, ?_, ?_⟩
  · rw [World.frozen?_setCell, hgrow.frozen_far ⟨P, 0, none⟩ (by simp; omega) (Ne.symm h.ap2)]
    show ((w.alloc (.cells zz 9)).alloc X).frozen? ⟨P, 0, none⟩ = false
    rw [World.frozen?_alloc_old _ _ _ (by simp; omega), World.frozen?_alloc_old _ _ _ (by simp; omega)]
    exact h.fro
  · rw [rowVals_grow _ _ _ hx, List.length_append]
    exact hown.kept (row := some P) ⟨rfl, rfl, rfl, by simp [World.setCell], fun k hk hn => Below.heap_setCell _ _ _ _ (fun e => hn (by rw [e]))⟩ (.inr (by simpa [Value.ownBlock] using hPG))
  · intro i g hi
    rcases Nat.lt_or_ge i gs.length with q | q
    · rw [List.getElem?_append_left q] at hi
      have m := List.mem_of_getElem? hi
      exact ⟨(h.inner i g hi).1, (h.inner i g hi).2.same (hold g (lt g (.inr (.inr m))).2 (h.ap3 g m) (fun e => h.ap1 (by rw [← e]; exact m)))⟩
    · rw [List.getElem?_append_right q] at hi
      have hl := (List.getElem?_eq_some_iff.1 hi).1
      simp at hl
      have : i = gs.length := by omega
      subst this
      simp at hi
      subst hi
      refine ⟨hB, zz, hnew, zz_size, fun j s hj hs => ?_⟩
      rw [List.getElem?_eq_none (by omega)] at hs
      cases hs
  · simp only [List.mem_append, List.mem_singleton, not_or]
    exact ⟨h.ap1, by omega⟩
  · simpa [Value.ownBlock] using hPG
  · intro g hg
    simp only [List.mem_append, List.mem_singleton] at hg
    have hGn : G ≠ w.heap.size := by
      rcases hat with e | e
      · have := (lt G (.inr (.inl e))).2; omega
      · omega
    rcases hg with hg | hg
    · rcases hat with e | e
      · rw [show (Value.slice (some ⟨G, 0, none⟩) (gs.length + 1) cap).ownBlock = some G from rfl, ← e]
        exact h.ap3 g hg
      · have := (lt g (.inr (.inr hg))).2
        simp [Value.ownBlock]; omega
    · subst hg
      simpa [Value.ownBlock] using hGn
  · rw [List.nodup_append]
    refine ⟨h.nodup, by simp, ?_⟩
    intro a ha b hb
    simp at hb
    subst hb
    have := (lt a (.inr (.inr ha))).2
    omega
end
end Go.Proofs.Qxb6003690a
