/- The walk of (*blocks).add. -/
import Derived.Test.Qxb6003690aLen
import Derived.Deep.RegionHeld3
import Derived.Deep.RegionLaw
namespace Go.Proofs.Qxb6003690a
open Go.RowKit
set_option linter.unusedVariables false

theorem info9 : (Try.prog.info? 9).map (fun i => (i.zero, i.size, i.bytes)) = some (some (.string ByteArray.empty), 1, 16) := by kernel_rfl
theorem info22 : (Try.prog.info? 22).map (fun i => (i.zero, i.size, i.bytes)) = some (some (.slice none 0 0), 1, 24) := by kernel_rfl


set_option maxRecDepth 100000 in
set_option maxHeartbeats 1600000 in
theorem add_room (P G q g cap l : Nat) (item : ByteArray) (w : World) (h1 : w.cell? ⟨P, 0, none⟩ = some (.slice (some ⟨G, 0, none⟩) (q + 1) cap)) (h2 : w.cell? ⟨G, q, none⟩ = some (.slice (some ⟨g, 0, none⟩) l 1024))
    (hq : q ≤ 1000000) (hl : l < 1024) (f2 : w.frozen? ⟨G, q, none⟩ = false) (h3 : ∃ u, w.cell? ⟨g, l, none⟩ = some u) (f3 : w.frozen? ⟨g, l, none⟩ = false) (hPG : P ≠ G) (hPg : P ≠ g) (hgG : g ≠ G) :
    Calls Try.prog 26 #[.pointer (some ⟨P, 0, none⟩), .string item] w fun e w' => e = .returned (.int .i64 ((1024 * q + l : Nat) : Int)) ∧
      w' = (((w.setCell ⟨g, l, none⟩ (.string item)).setCell ⟨G, q, none⟩ (.slice (some ⟨g, 0, none⟩) (l + 1) 1024)).alloc (.cells #[.string item] 9)).drew := by
  have i0 : (0 : Int) ≤ (q : Int) := by omega
  have i1 : (q : Int) < (q : Int) + 1 := by omega
  have i2 : ((l : Int) == 1024) = false := by simp; omega
  have lP := World.block_lt_of_cell? w _ h1
  have lG := World.block_lt_of_cell? w _ h2
  obtain ⟨u, h3⟩ := h3
  have lg := World.block_lt_of_cell? w _ h3
  go_enter Try.func26, Try.ntmps26
  go_wp2
  have hgP : g ≠ P := hPg.symm
  have n1 := World.new_ne w _ h1
  have n2 := World.new_ne w _ h2
  go_region
  go_wp2
  go_ret
  exact ⟨ret_int (by omega), rfl⟩

theorem mk1024 (w : World) : (Instr.makeSlice 22 (.int .i64 0) (.int .i64 1024)).run Try.prog w = .ok (.slice (some ⟨w.heap.size, 0, none⟩) 0 1024) (w.alloc (.cells zz 9)) := by
  obtain ⟨i9, hi9, hz0, hz1, hz2⟩ := info_parts info9
  have := run_make (P := Try.prog) w 22 9 i9 _ Try.underlying22 hi9 hz0 .i64 .i64 0 1024 (by omega) (by omega) (by rw [hz2]; decide) (by omega)
  rw [this, hz1]
  rfl

theorem two_new (w : World) (a b : Obj) : ((w.alloc a).alloc b).drew.heap[w.heap.size + 1]? = some b := by
  have := heap_alloc_new (w.alloc a) b
  rw [show (w.alloc a).heap.size = w.heap.size + 1 by simp] at this
  exact this

theorem far_cell {w w1 : World} {a b : Obj} {row : Option Nat} {P : Nat} {v : Value} (hg : (((w.alloc a).alloc b).drew).grownBy w1 row) (h1 : w.cell? ⟨P, 0, none⟩ = some v) (hne : row ≠ some P) : w1.cell? ⟨P, 0, none⟩ = some v := by
  have lt := World.block_lt_of_cell? w _ h1
  have lt' : P < w.heap.size := lt
  rw [hg.cell_far ⟨P, 0, none⟩ (by simp; omega) (Ne.symm hne)]
  show ((w.alloc a).alloc b).cell? ⟨P, 0, none⟩ = some v
  rw [World.cell?_alloc_lt _ _ _ (by simp; omega), World.cell?_alloc_lt _ _ _ lt]
  exact h1
theorem far_frozen {w w1 : World} {a b : Obj} {row : Option Nat} {P : Nat} {v : Value} (hg : (((w.alloc a).alloc b).drew).grownBy w1 row) (h1 : w.cell? ⟨P, 0, none⟩ = some v) (f1 : w.frozen? ⟨P, 0, none⟩ = false) (hne : row ≠ some P) : w1.frozen? ⟨P, 0, none⟩ = false := by
  have lt := World.block_lt_of_cell? w _ h1
  have lt' : P < w.heap.size := lt
  rw [hg.frozen_far ⟨P, 0, none⟩ (by simp; omega) (Ne.symm hne)]
  show ((w.alloc a).alloc b).frozen? ⟨P, 0, none⟩ = false
  rw [World.frozen?_alloc_old _ _ _ (by simp; omega), World.frozen?_alloc_old _ _ _ (by simp; omega)]
  exact f1

set_option maxRecDepth 100000 in
set_option maxHeartbeats 1600000 in
theorem add_full (B P G0 q g cap : Nat) (gs : List Nat) (xs : List ByteArray) (item : ByteArray) (w : World) (H : Hid (Blk w B P (.slice (some ⟨G0, 0, none⟩) (q + 1) cap) gs xs)) (hgs : gs.length = q + 1) (hx : xs.length = 1024 * gs.length)
    (h1 : w.cell? ⟨P, 0, none⟩ = some (.slice (some ⟨G0, 0, none⟩) (q + 1) cap)) (f1 : w.frozen? ⟨P, 0, none⟩ = false) (h2 : w.cell? ⟨G0, q, none⟩ = some (.slice (some ⟨g, 0, none⟩) 1024 1024)) (hq : q ≤ 1000000) :
    Calls Try.prog 26 #[.pointer (some ⟨P, 0, none⟩), .string item] w fun e w' => e = .returned (.int .i64 ((1024 * (q + 1) : Nat) : Int)) ∧
      ∃ G cap' w1, w1.ownsRow B 22 1 (.slice (some ⟨G, 0, none⟩) (q + 1 + 1) cap') (q + 1 + 1) (rowVals xs.length gs ++ [.slice (some ⟨w.heap.size, 0, none⟩) 0 1024]) ∧
        ((w.alloc (.cells zz 9)).alloc (.cells #[.slice (some ⟨w.heap.size, 0, none⟩) 0 1024] 22)).drew.grownBy w1 (some G0) ∧ (some G0 = some G ∨ G = w.heap.size + 2) ∧
        w' = ((((w1.setCell ⟨P, 0, none⟩ (.slice (some ⟨G, 0, none⟩) (q + 1 + 1) cap')).setCell ⟨w.heap.size, 0, none⟩ (.string item)).setCell ⟨G, q + 1, none⟩ (.slice (some ⟨w.heap.size, 0, none⟩) 1 1024)).alloc (.cells #[.string item] 9)).drew := by
  obtain ⟨i22, hi22, hz0, hz1, hz2⟩ := info_parts info22
  have HG : Hid (gs.length = q + 1) := hgs
  have HX : Hid (xs.length = 1024 * gs.length) := hx
  have own0 : w.ownsRow B 22 1 (.slice (some ⟨G0, 0, none⟩) (q + 1) cap) (q + 1) (rowVals xs.length gs) := by have := H.out.own; rwa [hgs] at this
  have HO : Hid (w.ownsRow B 22 1 (.slice (some ⟨G0, 0, none⟩) (q + 1) cap) (q + 1) (rowVals xs.length gs)) := own0
  have hB : B ≤ w.heap.size := by have := H.out.lt P (.inl rfl); omega
  have hne : (some G0 : Option Nat) ≠ some P := H.out.ap2
  clear hgs hx own0
  have hmk := mk1024
  have lP := World.block_lt_of_cell? w _ h1
  have n1 := World.new_ne w _ h1
  have TN : Hid _ := two_new w (.cells zz 9) (.cells #[.slice (some ⟨w.heap.size, 0, none⟩) 0 1024] 22)
  have i0 : (0 : Int) ≤ (q : Int) := by omega
  have i1 : (q : Int) < (q : Int) + 1 := by omega
  go_enter Try.func26, Try.ntmps26
  go_wp2
  go_region_law ((refine step_append_lies _ (by rfl) _ _ _ (by rfl) B 22 i22 _ 1 24 Try.underlying39 hi22 hz0 hz1 hz2 rfl (by omega) (.slice (some ⟨G0, 0, none⟩) (q + 1) cap) (q + 1) (rowVals xs.length gs) (by rfl) (((HO.out.alloc _).alloc _).drew) ⟨w.heap.size + 1, 0, none⟩ 1 1 [.slice (some ⟨w.heap.size, 0, none⟩) 0 1024] (by rfl) (by rfl) (World.news_of_block (cs := #[.slice (some ⟨w.heap.size, 0, none⟩) 0 1024]) (t := 22) (fr := (0, 0)) TN.out) (by simp [Value.oneCell']) (by omega) (by unfold maxLen; omega) (by omega) (by simp; omega) (w.heap.size + 2) (by simp) ?_; intro G cap' w1 hown1 hgrow hat hlt; have c1 := far_cell hgrow h1 hne; have c2 := far_frozen hgrow h1 f1 hne))
  all_goals
    have hb2 : Blk (w1.setCell ⟨P, 0, none⟩ (.slice (some ⟨G, 0, none⟩) (q + 1 + 1) cap')) B P (.slice (some ⟨G, 0, none⟩) (q + 1 + 1) cap') (gs ++ [w.heap.size]) xs := by
      have := Blk.grow H.out HX.out hB (X := .cells #[.slice (some ⟨w.heap.size, 0, none⟩) 0 1024] 22) (G := G) (cap := cap') (w1 := w1) (by rw [HG.out]; exact hown1) hgrow hat
      rwa [HG.out] at this
    have HB : Hid _ := hb2
    have hlast : (gs ++ [w.heap.size])[q + 1]? = some w.heap.size := by rw [← HG.out]; simp
    have hlen : (gs ++ [w.heap.size]).length = q + 1 + 1 := by rw [List.length_append, HG.out]; rfl
    have d1 := hb2.cell
    have d2 : (w1.setCell ⟨P, 0, none⟩ (.slice (some ⟨G, 0, none⟩) (q + 1 + 1) cap')).cell? ⟨G, q + 1, none⟩ = some (.slice (some ⟨w.heap.size, 0, none⟩) 0 1024) := by
      rw [← hlen] at hb2
      have := (hb2.rowCell hlast).1
      rw [hlen] at this
      rw [this, rowVal, lenAt, HX.out, HG.out]
      simp
    have d3 : (w1.setCell ⟨P, 0, none⟩ (.slice (some ⟨G, 0, none⟩) (q + 1 + 1) cap')).frozen? ⟨G, q + 1, none⟩ = false := by
      rw [← hlen] at hb2
      have := (hb2.rowCell hlast).2
      rwa [hlen] at this
    obtain ⟨u, d4⟩ := Option.isSome_iff_exists.1 (hb2.spareCell hlast (j := 0) (by omega)).1
    have d5 := (hb2.spareCell hlast (j := 0) (by omega)).2
    have hPG : P ≠ G := fun e => hb2.ap2 (by rw [e]; rfl)
    have hPg : P ≠ w.heap.size := fun e => hb2.ap1 (by rw [e]; simp)
    have hgG : w.heap.size ≠ G := fun e => hb2.ap3 w.heap.size (by simp) (by rw [e]; rfl)
    have O1 : Hid _ := hown1
    have O2 : Hid _ := hgrow
    have O3 : Hid _ := hat
    clear hown1 hgrow hat c1 c2 hb2 HB hlast hlen hmk
    generalize hW : (w1.setCell ⟨P, 0, none⟩ (.slice (some ⟨G, 0, none⟩) (q + 1 + 1) cap')) = w2 at d1 d2 d3 d4 d5 ⊢
    have HW : Hid (w1.setCell ⟨P, 0, none⟩ (.slice (some ⟨G, 0, none⟩) (q + 1 + 1) cap') = w2) := hW
    clear hW
    generalize hM : w.heap.size = M at d2 d4 d5 hPg hgG
    have HM : Hid (w.heap.size = M) := hM
    clear hM lP n1 h1 f1 h2 hlt hB
    have lP := World.block_lt_of_cell? w2 _ d1
    have lG := World.block_lt_of_cell? w2 _ d2
    have lg := World.block_lt_of_cell? w2 _ d4
    have hgP : M ≠ P := hPg.symm
    have n1 := World.new_ne w2 _ d1
    have n2 := World.new_ne w2 _ d2
    have j0 : (0 : Int) ≤ (q : Int) + 1 := by omega
    have j1 : (q : Int) + 1 < (q : Int) + 1 + 1 := by omega
    go_wp2
    go_region
    go_wp2
    go_ret
    subst HM
    subst HW
    exact ⟨ret_int (by omega), G, cap', w1, O1.out, O2.out, O3.out, rfl⟩
set_option maxRecDepth 100000 in
set_option maxHeartbeats 1600000 in
theorem add_first (B P cap : Nat) (ao : Option Addr) (item : ByteArray) (w : World) (H : Hid (Blk w B P (.slice ao 0 cap) [] []))
    (h1 : w.cell? ⟨P, 0, none⟩ = some (.slice ao 0 cap)) (f1 : w.frozen? ⟨P, 0, none⟩ = false) :
    Calls Try.prog 26 #[.pointer (some ⟨P, 0, none⟩), .string item] w fun e w' => e = .returned (.int .i64 0) ∧
      ∃ G cap' w1, w1.ownsRow B 22 1 (.slice (some ⟨G, 0, none⟩) 1 cap') 1 [.slice (some ⟨w.heap.size, 0, none⟩) 0 1024] ∧
        ((w.alloc (.cells zz 9)).alloc (.cells #[.slice (some ⟨w.heap.size, 0, none⟩) 0 1024] 22)).drew.grownBy w1 (Value.slice ao 0 cap).ownBlock ∧ ((Value.slice ao 0 cap).ownBlock = some G ∨ G = w.heap.size + 2) ∧
        w' = ((((w1.setCell ⟨P, 0, none⟩ (.slice (some ⟨G, 0, none⟩) 1 cap')).setCell ⟨w.heap.size, 0, none⟩ (.string item)).setCell ⟨G, 0, none⟩ (.slice (some ⟨w.heap.size, 0, none⟩) 1 1024)).alloc (.cells #[.string item] 9)).drew := by
  obtain ⟨i22, hi22, hz0, hz1, hz2⟩ := info_parts info22
  have HO : Hid (w.ownsRow B 22 1 (.slice ao 0 cap) 0 []) := H.out.own
  have hB : B ≤ w.heap.size := by have := H.out.lt P (.inl rfl); omega
  have hne : (Value.slice ao 0 cap).ownBlock ≠ some P := H.out.ap2
  have hmk := mk1024
  have lP := World.block_lt_of_cell? w _ h1
  have n1 := World.new_ne w _ h1
  have TN : Hid _ := two_new w (.cells zz 9) (.cells #[.slice (some ⟨w.heap.size, 0, none⟩) 0 1024] 22)
  go_enter Try.func26, Try.ntmps26
  go_wp2
  go_region_law ((refine step_append_lies _ (by rfl) _ _ _ (by rfl) B 22 i22 _ 1 24 Try.underlying39 hi22 hz0 hz1 hz2 rfl (by omega) (.slice ao 0 cap) 0 [] (by rfl) (((HO.out.alloc _).alloc _).drew) ⟨w.heap.size + 1, 0, none⟩ 1 1 [.slice (some ⟨w.heap.size, 0, none⟩) 0 1024] (by rfl) (by rfl) (World.news_of_block (cs := #[.slice (some ⟨w.heap.size, 0, none⟩) 0 1024]) (t := 22) (fr := (0, 0)) TN.out) (by simp [Value.oneCell']) (by omega) (by unfold maxLen; omega) (by omega) (by simp; omega) (w.heap.size + 2) (by simp) ?_; intro G cap' w1 hown1 hgrow hat hlt; simp only [Nat.zero_add, List.nil_append] at hown1 ⊢; have c1 := far_cell hgrow h1 hne; have c2 := far_frozen hgrow h1 f1 hne))
  all_goals
    have hb2 : Blk (w1.setCell ⟨P, 0, none⟩ (.slice (some ⟨G, 0, none⟩) 1 cap')) B P (.slice (some ⟨G, 0, none⟩) 1 cap') [w.heap.size] [] :=
      Blk.grow H.out rfl hB (X := .cells #[.slice (some ⟨w.heap.size, 0, none⟩) 0 1024] 22) (G := G) (cap := cap') (w1 := w1) hown1 hgrow hat
    have hlast : [w.heap.size][0]? = some w.heap.size := rfl
    have d1 := hb2.cell
    have d2 : (w1.setCell ⟨P, 0, none⟩ (.slice (some ⟨G, 0, none⟩) 1 cap')).cell? ⟨G, 0, none⟩ = some (.slice (some ⟨w.heap.size, 0, none⟩) 0 1024) :=
      (hb2.rowCell (i := 0) (g := w.heap.size) hlast).1
    have d3 : (w1.setCell ⟨P, 0, none⟩ (.slice (some ⟨G, 0, none⟩) 1 cap')).frozen? ⟨G, 0, none⟩ = false :=
      (hb2.rowCell (i := 0) (g := w.heap.size) hlast).2
    obtain ⟨u, d4⟩ := Option.isSome_iff_exists.1 (hb2.spareCell (i := 0) (g := w.heap.size) hlast (j := 0) (by omega)).1
    have d5 := (hb2.spareCell (i := 0) (g := w.heap.size) hlast (j := 0) (by omega)).2
    have hPG : P ≠ G := fun e => hb2.ap2 (by rw [e]; rfl)
    have hPg : P ≠ w.heap.size := fun e => hb2.ap1 (by rw [e]; simp)
    have hgG : w.heap.size ≠ G := fun e => hb2.ap3 w.heap.size (by simp) (by rw [e]; rfl)
    have O1 : Hid _ := hown1
    have O2 : Hid _ := hgrow
    have O3 : Hid _ := hat
    clear hown1 hgrow hat c1 c2 hb2 hlast hmk
    generalize hW : (w1.setCell ⟨P, 0, none⟩ (.slice (some ⟨G, 0, none⟩) 1 cap')) = w2 at d1 d2 d3 d4 d5 ⊢
    have HW : Hid (w1.setCell ⟨P, 0, none⟩ (.slice (some ⟨G, 0, none⟩) 1 cap') = w2) := hW
    clear hW
    generalize hM : w.heap.size = M at d2 d4 d5 hPg hgG
    have HM : Hid (w.heap.size = M) := hM
    clear hM lP n1 h1 f1 hlt hB
    have lP := World.block_lt_of_cell? w2 _ d1
    have lG := World.block_lt_of_cell? w2 _ d2
    have lg := World.block_lt_of_cell? w2 _ d4
    have hgP : M ≠ P := hPg.symm
    have n1 := World.new_ne w2 _ d1
    have n2 := World.new_ne w2 _ d2
    go_wp2
    go_region
    go_wp2
    go_ret
    subst HM
    subst HW
    exact ⟨ret_int (by omega), G, cap', w1, O1.out, O2.out, O3.out, rfl⟩
end Go.Proofs.Qxb6003690a
