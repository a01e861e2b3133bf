/- What add, at and put do to the list, as their callers see it. -/
import Derived.Test.Qxb6003690aAdd
namespace Go.Proofs.Qxb6003690a
open Go.RowKit
set_option linter.unusedVariables false

/-- what the callers are told of a call that adds an item -/
def Added (w : World) (B P : Nat) (F : Nat → Prop) (xs : List ByteArray) (w' : World) : Prop :=
  ∃ F' : Nat → Prop, Blks w' B P F' xs ∧ Kept F w w' ∧ ∀ k, F' k → F k ∨ w.heap.size ≤ k

theorem added_of {w w' : World} {B P : Nat} {v v' : Value} {gs gs' : List Nat} {F : Nat → Prop} {xs : List ByteArray} (hF : ∀ k, Foot P v gs k → F k) (hlt : ∀ k, F k → B ≤ k ∧ k < w.heap.size) (hB : B ≤ w.heap.size)
    (hb : Blk w' B P v' gs' xs) (hl : gs'.length = (xs.length + 1023) / 1024) (hk : Kept (Foot P v gs) w w') (hf : ∀ k, Foot P v' gs' k → Foot P v gs k ∨ w.heap.size ≤ k) : Added w B P F xs w' := by
  have hbl := hb.lt
  refine ⟨fun k => F k ∨ (w.heap.size ≤ k ∧ k < w'.heap.size), ⟨v', gs', hb, hl, ?_, ?_⟩, hk.mono hF, ?_⟩
  · intro k f
    rcases hf k f with g | g
    · exact .inl (hF k g)
    · exact .inr ⟨g, (hbl k f).2⟩
  · intro k f
    rcases f with f | f
    · exact ⟨(hlt k f).1, Nat.lt_of_lt_of_le (hlt k f).2 hk.size⟩
    · omega
  · intro k f
    rcases f with f | f
    · exact .inl f
    · exact .inr f.1

theorem Blks.add {w : World} {B P : Nat} {F : Nat → Prop} {xs : List ByteArray} (h : Blks w B P F xs) (hn : xs.length ≤ 900000) (item : ByteArray) :
    Calls Try.prog 26 #[.pointer (some ⟨P, 0, none⟩), .string item] w fun e w' => e = .returned (.int .i64 (xs.length : Int)) ∧ Added w B P F (xs ++ [item]) w' := by
  obtain ⟨v, gs, hb, hl, hf, hlt⟩ := h
  have hB : B ≤ w.heap.size := by have := hb.lt P (.inl rfl); omega
  have hroom := hb.room
  have hfull := hb.full
  by_cases hx : xs.length = 1024 * gs.length
  · rcases Nat.eq_zero_or_pos gs.length with h0 | h0
    · -- the first block
      have eg : gs = [] := List.length_eq_zero_iff.1 h0
      have ex : xs = [] := List.length_eq_zero_iff.1 (by omega)
      subst eg
      subst ex
      have hv : ∃ a c, v = .slice a 0 c := by
        rcases hb.own.2 with ⟨e, _⟩ | ⟨g, cap, cur, e, _⟩
        · exact ⟨_, _, e⟩
        · exact ⟨_, _, e⟩
      obtain ⟨ao, cap, rfl⟩ := hv
      refine (add_first B P cap ao item w hb hb.cell hb.fro).mono ?_
      rintro e w' ⟨rfl, G, cap', w1, hown, hgrow, hat, rfl⟩
      refine ⟨rfl, ?_⟩
      have b2 : Blk (w1.setCell ⟨P, 0, none⟩ (.slice (some ⟨G, 0, none⟩) 1 cap')) B P (.slice (some ⟨G, 0, none⟩) [w.heap.size].length cap') [w.heap.size] [] := Blk.grow hb rfl hB hown hgrow hat
      have b3 := (((Blk.push (gs := [w.heap.size]) (G := G) (cap := cap') (g := w.heap.size) b2 (by simp) (by simp) (by simp) item).alloc (.cells #[.string item] 9)).drew)
      refine added_of hf hlt hB b3 (by simp) ?_ ?_
      · refine (((((((Kept.refl _ w).alloc _).alloc _).drew).grown hgrow ?_).setCell ?_ _).setCell ?_ _).setCell ?_ _ |>.alloc _ |>.drew
        · intro k e _; exact .inr (.inl e)
        · intro _; exact .inl rfl
        · intro hlt'; exact absurd hlt' (by simp)
        · intro hlt'
          rcases hat with e | e
          · exact .inr (.inl e)
          · simp only [e] at hlt'; omega
      · intro k f
        rcases f with f | f | f
        · exact .inl (.inl f)
        · rcases hat with e | e
          · exact .inl (.inr (.inl (by rw [e]; exact f)))
          · simp [Value.ownBlock] at f; omega
        · simp at f; omega
    · -- a further block
      obtain ⟨q, hq⟩ : ∃ q, gs.length = q + 1 := ⟨gs.length - 1, by omega⟩
      obtain ⟨G0, cap, rfl, _⟩ := hb.form (by omega)
      obtain ⟨g, hg⟩ : ∃ g, gs[q]? = some g := ⟨gs[q], List.getElem?_eq_getElem (by omega)⟩
      have c2 := (hb.rowCell hg).1
      have el : lenAt xs.length q = 1024 := by unfold lenAt; omega
      rw [rowVal, el] at c2
      have hb' := hb
      rw [hq] at hb'
      refine (add_full B P G0 q g cap gs xs item w hb' hq hx hb'.cell hb'.fro c2 (by omega)).mono ?_
      rintro e w' ⟨rfl, G, cap', w1, hown, hgrow, hat, rfl⟩
      refine ⟨ret_int (by omega), ?_⟩
      rw [← hq] at hown ⊢
      have b2 := Blk.grow hb hx hB hown hgrow hat
      have hl' : (gs ++ [w.heap.size]).length = gs.length + 1 := by simp
      rw [← hl'] at b2
      have b3 := (((Blk.push (G := G) (cap := cap') (g := w.heap.size) b2 (by simp) (by simp) (by simp; omega) item).alloc (.cells #[.string item] 9)).drew)
      rw [hl'] at b3
      simp only [Nat.add_sub_cancel, hx, Nat.sub_self, Nat.zero_add] at b3
      refine added_of hf hlt hB b3 (by simp; omega) ?_ ?_
      · refine (((((((Kept.refl _ w).alloc _).alloc _).drew).grown hgrow ?_).setCell ?_ _).setCell ?_ _).setCell ?_ _ |>.alloc _ |>.drew
        · intro k e _; exact .inr (.inl e)
        · intro _; exact .inl rfl
        · intro hlt'; exact absurd hlt' (by simp)
        · intro hlt'
          rcases hat with e | e
          · exact .inr (.inl e)
          · simp only [e] at hlt'; omega
      · intro k f
        rcases f with f | f | f
        · exact .inl (.inl f)
        · rcases hat with e | e
          · exact .inl (.inr (.inl (by rw [← f]; exact e)))
          · simp [Value.ownBlock] at f; omega
        · rw [List.mem_append] at f
          rcases f with f | f
          · exact .inl (.inr (.inr f))
          · simp at f; omega
  · -- there is room in the last block
    obtain ⟨q, hq⟩ : ∃ q, gs.length = q + 1 := ⟨gs.length - 1, by omega⟩
    obtain ⟨G, cap, rfl, _⟩ := hb.form (by omega)
    obtain ⟨g, hg⟩ : ∃ g, gs[q]? = some g := ⟨gs[q], List.getElem?_eq_getElem (by omega)⟩
    have mg := List.mem_of_getElem? hg
    have c1 := hb.cell
    have c2 := hb.rowCell hg
    rw [hq] at c1
    have el : lenAt xs.length q = xs.length - 1024 * q := by unfold lenAt; omega
    rw [rowVal, el] at c2
    have c3 := hb.spareCell hg (j := xs.length - 1024 * q) (by omega)
    refine (add_room P G q g cap (xs.length - 1024 * q) item w c1 c2.1 (by omega) (by omega) c2.2 (Option.isSome_iff_exists.1 c3.1) c3.2 (fun e => hb.ap2 (by rw [e]; rfl)) (fun e => hb.ap1 (by rw [e]; exact mg)) (fun e => hb.ap3 g mg (by rw [e]; rfl))).mono ?_
    rintro e w' ⟨rfl, rfl⟩
    refine ⟨ret_int (by omega), ?_⟩
    have hq' : q = gs.length - 1 := by omega
    have b3 := ((hb.push (g := g) (by omega) (by rw [← hq']; exact hg) (by omega) item).alloc (.cells #[.string item] 9)).drew
    rw [← hq'] at b3
    refine added_of hf hlt hB b3 (by simp; omega) ?_ (fun k f => .inl f)
    refine ((((Kept.refl _ w).setCell ?_ _).setCell ?_ _).alloc _).drew
    · intro _; exact .inr (.inr mg)
    · intro _; exact .inr (.inl rfl)

/-- 'ZZBlocksAdd' -/
theorem Blks.zadd {w : World} {B P : Nat} {F : Nat → Prop} {xs : List ByteArray} (h : Blks w B P F xs) (hn : xs.length ≤ 900000) (item : ByteArray) :
    Calls Try.prog 12 #[.pointer (some ⟨P, 0, none⟩), .string item] w fun e w' => e = .returned (.int .i64 (xs.length : Int)) ∧ Added w B P F (xs ++ [item]) w' := by
  go_enter Try.func12, Try.ntmps12
  go_wp2_with fail
  refine (h.add hn item).mono ?_
  rintro e w' ⟨rfl, hk⟩
  go_wp2
  go_ret
  exact ⟨rfl, hk⟩
end Go.Proofs.Qxb6003690a
