/- The state of FnPutKeepsLastWritePerHandle: the memory (Mem) and the plain law (Logic). -/
import Derived.Test.Qxb6003690aPut
import Derived.Test.Qxb6003690aInv
namespace Go.Proofs.Qxb6003690a
open Go.RowKit
set_option linter.unusedVariables false

/-! ### the memory: the list, beside five rows: three that are written (0, 1, 2), two clones (3, 4) -/
structure Mem (w0 : World) (B P : Nat) (R len : Nat → Nat) (val : Nat → Nat → Value) (xs : List ByteArray) (wr : World) : Prop where
  blks : ∃ F, Blks wr B P F xs ∧ ∀ r, r < 5 → ¬ F (R r)
  cells : ∀ r s, r < 5 → s < len r → wr.cell? ⟨R r, s, none⟩ = some (val r s)
  fro : ∀ r s, r < 3 → wr.frozen? ⟨R r, s, none⟩ = false
  lt : ∀ r, r < 5 → R r < wr.heap.size
  ge : ∀ r, r < 3 → B ≤ R r
  apart : ∀ r r', r < 3 → r' < 5 → r ≠ r' → 0 < len r' → R r ≠ R r'
  hB : B ≤ wr.heap.size
  below : Below B w0 wr

section
variable {w0 : World} {B P : Nat} {R len : Nat → Nat} {val : Nat → Nat → Value} {xs : List ByteArray} {wr : World}

theorem Mem.kept (h : Mem w0 B P R len val xs wr) {F' : Nat → Prop} {w' : World} {xs' : List ByteArray} (k : Kept F' wr w') (hFB : ∀ i, F' i → B ≤ i) (hR : ∀ r, r < 5 → ¬ F' (R r)) (hb : ∃ F, Blks w' B P F xs' ∧ ∀ r, r < 5 → ¬ F (R r)) : Mem w0 B P R len val xs' w' :=
  ⟨hb, fun r s hr hs => (k.cell (p := ⟨R r, s, none⟩) (h.lt r hr) (hR r hr)).trans (h.cells r s hr hs), fun r s hr => (k.frozen (p := ⟨R r, s, none⟩) (h.lt r (by omega)) (hR r (by omega))).trans (h.fro r s hr), fun r hr => Nat.lt_of_lt_of_le (h.lt r hr) k.size, h.ge, h.apart, Nat.le_trans h.hB k.size, h.below.trans (k.below h.hB hFB)⟩

theorem Mem.still (h : Mem w0 B P R len val xs wr) {w' : World} (k : Kept NoF wr w') : Mem w0 B P R len val xs w' := by
  obtain ⟨F, hb, hF⟩ := h.blks
  exact h.kept k (fun _ x => x.elim) (fun _ _ x => x) ⟨F, hb.still k, hF⟩

theorem Mem.added (h : Mem w0 B P R len val xs wr) {F : Nat → Prop} {w' : World} {xs' : List ByteArray} (hb : Blks wr B P F xs) (hF : ∀ r, r < 5 → ¬ F (R r)) (ha : Added wr B P F xs' w') : Mem w0 B P R len val xs' w' := by
  obtain ⟨F', hb', k, hF'⟩ := ha
  refine h.kept k (fun i x => (hb.lt i x).1) hF ⟨F', hb', fun r hr x => ?_⟩
  rcases hF' _ x with g | g
  · exact hF r hr g
  · have := h.lt r hr; omega

/-- a store into one of the three rows -/
def put3 (val : Nat → Nat → Value) (r s : Nat) (u : Value) : Nat → Nat → Value := fun r' s' => if r' = r ∧ s' = s then u else val r' s'
theorem Mem.set (h : Mem w0 B P R len val xs wr) {r s : Nat} (hr : r < 3) (hs : s < len r) (u : Value) : Mem w0 B P R len (put3 val r s u) xs (wr.setCell ⟨R r, s, none⟩ u) := by
  obtain ⟨F, hb, hF⟩ := h.blks
  have k : Kept (fun i => i = R r) wr (wr.setCell ⟨R r, s, none⟩ u) := (Kept.refl (fun i => i = R r) wr).setCell (p := ⟨R r, s, none⟩) (fun _ => rfl) _
  refine ⟨⟨F, hb.kept k (fun i x e => hF r (by omega) (by rw [← e]; exact x)), hF⟩, ?_, fun r' s' hr' => by rw [World.frozen?_setCell]; exact h.fro r' s' hr', fun r' hr' => Nat.lt_of_lt_of_le (h.lt r' hr') k.size, h.ge, h.apart, Nat.le_trans h.hB k.size, h.below.setCell (h.ge r hr) _⟩
  intro r' s' hr' hs'
  unfold put3
  by_cases e : r' = r
  · subst e
    by_cases e2 : s' = s
    · subst e2
      rw [World.cell?_setCell_same _ _ _ (h.cells r' s' hr' hs')]
      simp
    · rw [World.cell?_setCell_other _ _ _ _ (by intro q; injection q; omega), h.cells r' s' hr' hs']
      simp [e2]
  · rw [(k.cell (p := ⟨R r', s', none⟩) (h.lt r' hr') (fun q => h.apart r r' hr hr' (fun t => e t.symm) (by omega) q.symm)), h.cells r' s' hr' hs']
    simp [e]

theorem Mem.congr (h : Mem w0 B P R len val xs wr) {val' : Nat → Nat → Value} (e : ∀ r s, r < 5 → s < len r → val r s = val' r s) : Mem w0 B P R len val' xs wr :=
  ⟨h.blks, fun r s hr hs => by rw [h.cells r s hr hs, e r s hr hs], h.fro, h.lt, h.ge, h.apart, h.hB, h.below⟩

theorem Mem.put_new (h : Mem w0 B P R len val xs wr) (hn : xs.length ≤ 900000) {s : Nat} (hs : s < len 0) (h0 : val 0 s = .int .i32 0) (item : ByteArray) :
    Calls Try.prog 16 #[.pointer (some ⟨P, 0, none⟩), .pointer (some ⟨R 0, s, none⟩), .string item] wr fun e w' => e = .returned (.tuple #[]) ∧ Mem w0 B P R len (put3 val 0 s (.int .i32 ((xs.length : Int) + 1))) (xs ++ [item]) w' := by
  obtain ⟨F, hb, hF⟩ := h.blks
  have c := h.cells 0 s (by omega) hs
  rw [h0] at c
  refine put16 (Q := fun e w' => Mem w0 B P R len (put3 val 0 s (.int .i32 ((xs.length : Int) + 1))) (xs ++ [item]) w') ((hb.put_new hn item (R 0) s c (h.fro 0 s (by omega)) (hF 0 (by omega))).mono ?_)
  rintro e w' ⟨rfl, w1, ha, rfl⟩
  exact ⟨rfl, (h.added hb hF ha).set (by omega) hs _⟩

theorem Mem.put_old (h : Mem w0 B P R len val xs wr) (hn : xs.length ≤ 900000) {s i : Nat} {x : ByteArray} (hs : s < len 0) (hi : xs[i]? = some x) (h0 : val 0 s = .int .i32 ((i : Int) + 1)) (item : ByteArray) :
    Calls Try.prog 16 #[.pointer (some ⟨P, 0, none⟩), .pointer (some ⟨R 0, s, none⟩), .string item] wr fun e w' => e = .returned (.tuple #[]) ∧ Mem w0 B P R len val (xs.set i item) w' := by
  obtain ⟨F, hb, hF⟩ := h.blks
  have c := h.cells 0 s (by omega) hs
  rw [h0] at c
  refine put16 (Q := fun e w' => Mem w0 B P R len val (xs.set i item) w') ((hb.put_old hn item (R 0) s i x hi c).mono ?_)
  rintro e w' ⟨rfl, g, j, hg, hb', rfl⟩
  refine ⟨rfl, ?_⟩
  have k : Kept (fun i => i = g) wr (wr.setCell ⟨g, j, none⟩ (.string item)) := (Kept.refl (fun i => i = g) wr).setCell (p := ⟨g, j, none⟩) (fun _ => rfl) _
  exact h.kept k (fun i e => by rw [e]; exact (hb.lt g hg).1) (fun r hr e => hF r hr (by rw [e]; exact hg)) ⟨F, hb', hF⟩

theorem Mem.zlen (h : Mem w0 B P R len val xs wr) (hn : xs.length ≤ 900000) : Calls Try.prog 11 #[.pointer (some ⟨P, 0, none⟩)] wr fun e w' => e = .returned (.int .i64 (xs.length : Int)) ∧ Mem w0 B P R len val xs w' := by
  obtain ⟨F, hb, _⟩ := h.blks
  exact (hb.zlen (by omega)).mono fun e w' ⟨he, k⟩ => ⟨he, h.still k⟩

theorem Mem.at (h : Mem w0 B P R len val xs wr) (hn : xs.length ≤ 900000) (i : Nat) (s : ByteArray) (hi : xs[i]? = some s) :
    ∀ m, Calls Try.prog 13 #[.pointer (some ⟨P, 0, none⟩), .int .i64 i] (wr.drewN m) fun e w' => e = .returned (.string s) ∧ w' = wr.drewN m := by
  obtain ⟨F, hb, _⟩ := h.blks
  obtain ⟨g, _, hc, _, _, hcall⟩ := hb.at (by omega) i s hi
  exact zat1_of hcall hc
end

/-! ### the plain law -/
/-- how many of the first n handles are used -/
def cntU (us : Nat → Bool) : Nat → Nat
  | 0 => 0
  | n + 1 => cntU us n + if us n then 1 else 0
def setAt {α : Type} (g : Nat → α) (s : Nat) (x : α) : Nat → α := fun t => if t = s then x else g t
theorem cntU_le (us : Nat → Bool) (n : Nat) : cntU us n ≤ n := by
  induction n with
  | zero => simp [cntU]
  | succ n ih => simp only [cntU]; split <;> omega
theorem cntU_same (us : Nat → Bool) (s n : Nat) (h : n ≤ s) : cntU (setAt us s true) n = cntU us n := by
  induction n with
  | zero => rfl
  | succ n ih =>
    have e : setAt us s true n = us n := by unfold setAt; rw [if_neg (by omega)]
    simp only [cntU, e, ih (by omega)]
theorem cntU_set (us : Nat → Bool) (s n : Nat) (h : s < n) (hu : us s = false) : cntU (setAt us s true) n = cntU us n + 1 := by
  induction n with
  | zero => omega
  | succ n ih =>
    by_cases e : s = n
    · subst e
      have e1 : setAt us s true s = true := by simp [setAt]
      simp only [cntU, e1, hu, cntU_same us s s (Nat.le_refl _)]
      simp
    · have e1 : setAt us s true n = us n := by unfold setAt; rw [if_neg (by omega)]
      simp only [cntU, e1, ih (by omega)]
      omega
theorem setAt_id {α : Type} (g : Nat → α) (s : Nat) (x : α) (h : g s = x) : setAt g s x = g := by
  funext t
  unfold setAt
  split
  · next e => rw [e, h]
  · rfl

structure Logic (xs : List ByteArray) (hd : Nat → Nat) (la : Nat → ByteArray) (us : Nat → Bool) : Prop where
  unused : ∀ s, s < 8 → us s = false → hd s = 0
  used : ∀ s, s < 8 → us s = true → ∃ i, hd s = i + 1 ∧ xs[i]? = some (la s)
  inj : ∀ s s', s < 8 → s' < 8 → hd s = hd s' → hd s ≠ 0 → s = s'
  cnt : cntU us 8 = xs.length

theorem Logic.start : Logic [] (fun _ => 0) (fun _ => ⟨#[]⟩) (fun _ => false) :=
  ⟨fun _ _ _ => rfl, (fun s _ h => by cases h), (fun s s' _ _ _ h => absurd rfl h), by simp [cntU]⟩

theorem Logic.small {xs : List ByteArray} {hd : Nat → Nat} {la : Nat → ByteArray} {us : Nat → Bool} (h : Logic xs hd la us) : xs.length ≤ 8 := by
  have := cntU_le us 8
  rw [h.cnt] at this
  exact this

theorem Logic.add {xs : List ByteArray} {hd : Nat → Nat} {la : Nat → ByteArray} {us : Nat → Bool} (h : Logic xs hd la us) {s : Nat} (hs : s < 8) (h0 : hd s = 0) (item : ByteArray) :
    Logic (xs ++ [item]) (setAt hd s (xs.length + 1)) (setAt la s item) (setAt us s true) := by
  have hu : us s = false := by
    cases e : us s with
    | false => rfl
    | true => obtain ⟨i, hi, _⟩ := h.used s hs e; omega
  have hle : ∀ t, t < 8 → hd t ≤ xs.length := fun t ht => by
    cases e : us t with
    | false => rw [h.unused t ht e]; omega
    | true =>
      obtain ⟨i, hi, hx⟩ := h.used t ht e
      have := (List.getElem?_eq_some_iff.1 hx).1
      omega
  refine ⟨?_, ?_, ?_, ?_⟩
  · intro t ht e
    unfold setAt at e ⊢
    by_cases q : t = s
    · rw [if_pos q] at e; cases e
    · rw [if_neg q] at e ⊢; exact h.unused t ht e
  · intro t ht e
    unfold setAt at e ⊢
    by_cases q : t = s
    · rw [if_pos q, if_pos q]
      exact ⟨xs.length, rfl, by simp⟩
    · rw [if_neg q] at e
      rw [if_neg q, if_neg q]
      obtain ⟨i, hi, hx⟩ := h.used t ht e
      exact ⟨i, hi, by rw [List.getElem?_append_left (List.getElem?_eq_some_iff.1 hx).1]; exact hx⟩
  · intro t t' ht ht' he hne
    unfold setAt at he hne
    by_cases q : t = s
    · by_cases q' : t' = s
      · omega
      · rw [if_pos q, if_neg q'] at he
        have := hle t' ht'
        omega
    · by_cases q' : t' = s
      · rw [if_neg q, if_pos q'] at he
        have := hle t ht
        omega
      · rw [if_neg q, if_neg q'] at he
        rw [if_neg q] at hne
        exact h.inj t t' ht ht' he hne
  · rw [cntU_set us s 8 hs hu, h.cnt]
    simp

theorem Logic.item {xs : List ByteArray} {hd : Nat → Nat} {la : Nat → ByteArray} {us : Nat → Bool} (h : Logic xs hd la us) {s i : Nat} (hs : s < 8) (hi : hd s = i + 1) : ∃ x, xs[i]? = some x := by
  cases e : us s with
  | false => have := h.unused s hs e; omega
  | true =>
    obtain ⟨j, hj, hx⟩ := h.used s hs e
    have : j = i := by omega
    subst this
    exact ⟨_, hx⟩

theorem Logic.set {xs : List ByteArray} {hd : Nat → Nat} {la : Nat → ByteArray} {us : Nat → Bool} (h : Logic xs hd la us) {s i : Nat} (hs : s < 8) (hi : hd s = i + 1) (item : ByteArray) :
    Logic (xs.set i item) hd (setAt la s item) (setAt us s true) := by
  have hu : us s = true := by
    cases e : us s with
    | true => rfl
    | false => have := h.unused s hs e; omega
  rw [setAt_id us s true hu]
  refine ⟨h.unused, ?_, h.inj, by rw [List.length_set]; exact h.cnt⟩
  intro t ht e
  obtain ⟨j, hj, hx⟩ := h.used t ht e
  refine ⟨j, hj, ?_⟩
  have hl := (List.getElem?_eq_some_iff.1 hx).1
  unfold setAt
  by_cases q : t = s
  · rw [if_pos q]
    subst q
    have : j = i := by omega
    subst this
    rw [List.getElem?_set, if_pos rfl, if_pos hl]
  · rw [if_neg q, List.getElem?_set, if_neg ?_]
    · exact hx
    · intro e2
      exact q (h.inj t s ht hs (by omega) (by omega))

/-! ### the law's own five rows -/
def R5 (Hb L U S V : Nat) : Nat → Nat
  | 0 => Hb
  | 1 => L
  | 2 => U
  | 3 => S
  | _ => V
def len5 (ns nv : Nat) : Nat → Nat
  | 0 => 8
  | 1 => 8
  | 2 => 8
  | 3 => ns
  | _ => nv
def val5 (hd : Nat → Nat) (la : Nat → ByteArray) (us : Nat → Bool) (sl : Nat → Int) (f : Nat → ByteArray) : Nat → Nat → Value
  | 0, s => .int .i32 (hd s : Int)
  | 1, s => .string (la s)
  | 2, s => .bool (us s)
  | 3, s => .int .u8 (sl s)
  | _, s => .string (f s)

theorem val5_set (hd : Nat → Nat) (la : Nat → ByteArray) (us : Nat → Bool) (sl : Nat → Int) (f : Nat → ByteArray) (s m : Nat) (x : ByteArray) (r t : Nat) :
    put3 (put3 (put3 (val5 hd la us sl f) 0 s (.int .i32 ((m : Int) + 1))) 1 s (.string x)) 2 s (.bool true) r t = val5 (setAt hd s (m + 1)) (setAt la s x) (setAt us s true) sl f r t := by
  unfold put3 setAt
  match r with
  | 0 => by_cases e : t = s <;> simp [val5, e]
  | 1 => by_cases e : t = s <;> simp [val5, e]
  | 2 => by_cases e : t = s <;> simp [val5, e]
  | 3 => simp [val5]
  | n + 4 => simp [val5]
theorem val5_set2 (hd : Nat → Nat) (la : Nat → ByteArray) (us : Nat → Bool) (sl : Nat → Int) (f : Nat → ByteArray) (s : Nat) (x : ByteArray) (r t : Nat) :
    put3 (put3 (val5 hd la us sl f) 1 s (.string x)) 2 s (.bool true) r t = val5 hd (setAt la s x) (setAt us s true) sl f r t := by
  unfold put3 setAt
  match r with
  | 0 => simp [val5]
  | 1 => by_cases e : t = s <;> simp [val5, e]
  | 2 => by_cases e : t = s <;> simp [val5, e]
  | 3 => simp [val5]
  | n + 4 => simp [val5]

def z8 : Array Value := #[.int .i32 0, .int .i32 0, .int .i32 0, .int .i32 0, .int .i32 0, .int .i32 0, .int .i32 0, .int .i32 0]
def s8 : Array Value := #[.string ⟨#[]⟩, .string ⟨#[]⟩, .string ⟨#[]⟩, .string ⟨#[]⟩, .string ⟨#[]⟩, .string ⟨#[]⟩, .string ⟨#[]⟩, .string ⟨#[]⟩]
def b8 : Array Value := #[.bool false, .bool false, .bool false, .bool false, .bool false, .bool false, .bool false, .bool false]
theorem z8_at (s : Nat) (h : s < 8) : z8[s]? = some (.int .i32 0) := by
  have : s = 0 ∨ s = 1 ∨ s = 2 ∨ s = 3 ∨ s = 4 ∨ s = 5 ∨ s = 6 ∨ s = 7 := by omega
  rcases this with rfl | rfl | rfl | rfl | rfl | rfl | rfl | rfl <;> rfl
theorem s8_at (s : Nat) (h : s < 8) : s8[s]? = some (.string ⟨#[]⟩) := by
  have : s = 0 ∨ s = 1 ∨ s = 2 ∨ s = 3 ∨ s = 4 ∨ s = 5 ∨ s = 6 ∨ s = 7 := by omega
  rcases this with rfl | rfl | rfl | rfl | rfl | rfl | rfl | rfl <;> rfl
theorem b8_at (s : Nat) (h : s < 8) : b8[s]? = some (.bool false) := by
  have : s = 0 ∨ s = 1 ∨ s = 2 ∨ s = 3 ∨ s = 4 ∨ s = 5 ∨ s = 6 ∨ s = 7 := by omega
  rcases this with rfl | rfl | rfl | rfl | rfl | rfl | rfl | rfl <;> rfl

/-- the world at the start of the script -/
def w8 (w2 : World) : World := (((w2.alloc (.cells #[.slice none 0 0] 41)).alloc (.cells z8 34)).alloc (.cells s8 35)).alloc (.cells b8 36)

theorem Mem.start {w w2 : World} {S V ns nv : Nat} {sl : Nat → Int} {f : Nat → ByteArray} (hb : Below w.heap.size w w2) (hS : S < w2.heap.size ∨ (ns = 0 ∧ S = w2.heap.size + 1)) (hV : V < w2.heap.size ∨ (nv = 0 ∧ V = w2.heap.size + 1))
    (cs : ∀ j, j < ns → w2.cell? ⟨S, j, none⟩ = some (.int .u8 (sl j))) (cv : ∀ j, j < nv → w2.cell? ⟨V, j, none⟩ = some (.string (f j))) :
    Mem w w.heap.size w2.heap.size (R5 (w2.heap.size + 1) (w2.heap.size + 1 + 1) (w2.heap.size + 1 + 1 + 1) S V) (len5 ns nv) (val5 (fun _ => 0) (fun _ => ⟨#[]⟩) (fun _ => false) sl f) [] (w8 w2) := by
  have hsz := hb.size
  let wa := w2.alloc (.cells #[.slice none 0 0] 41)
  let wb := wa.alloc (.cells z8 34)
  let wc := wb.alloc (.cells s8 35)
  have ea : wa.heap.size = w2.heap.size + 1 := by simp [wa]
  have eb : wb.heap.size = w2.heap.size + 1 + 1 := by simp [wb, ea]
  have ec : wc.heap.size = w2.heap.size + 1 + 1 + 1 := by simp [wc, eb]
  have ed : (w8 w2).heap.size = w2.heap.size + 1 + 1 + 1 + 1 := by show (wc.alloc _).heap.size = _; simp [ec]
  have kd : Kept NoF wc (w8 w2) := (Kept.refl NoF wc).alloc _
  have kc : Kept NoF wb (w8 w2) := ((Kept.refl NoF wb).alloc _).alloc _
  have kb : Kept NoF wa (w8 w2) := (((Kept.refl NoF wa).alloc _).alloc _).alloc _
  have k2 : Kept NoF w2 (w8 w2) := ((((Kept.refl NoF w2).alloc _).alloc _).alloc _).alloc _
  have no : ∀ x : Nat, ¬ NoF x := fun _ x => x
  have c0 : ∀ s, s < 8 → (w8 w2).cell? ⟨w2.heap.size + 1, s, none⟩ = some (.int .i32 0) := fun s hs => by
    rw [kc.cell (p := ⟨w2.heap.size + 1, s, none⟩) (by show _ < wb.heap.size; rw [eb]; show w2.heap.size + 1 < _; omega) (no _), ← ea]
    show (wa.alloc (.cells z8 34)).cell? _ = _
    rw [World.cell?_alloc_new]
    exact z8_at s hs
  have c1 : ∀ s, s < 8 → (w8 w2).cell? ⟨w2.heap.size + 1 + 1, s, none⟩ = some (.string ⟨#[]⟩) := fun s hs => by
    rw [kd.cell (p := ⟨w2.heap.size + 1 + 1, s, none⟩) (by show _ < wc.heap.size; rw [ec]; show w2.heap.size + 1 + 1 < _; omega) (no _), ← eb]
    show (wb.alloc (.cells s8 35)).cell? _ = _
    rw [World.cell?_alloc_new]
    exact s8_at s hs
  have c2 : ∀ s, s < 8 → (w8 w2).cell? ⟨w2.heap.size + 1 + 1 + 1, s, none⟩ = some (.bool false) := fun s hs => by
    rw [← ec]
    show (wc.alloc (.cells b8 36)).cell? _ = _
    rw [World.cell?_alloc_new]
    exact b8_at s hs
  have f0 : ∀ s, (w8 w2).frozen? ⟨w2.heap.size + 1, s, none⟩ = false := fun s => by
    rw [kc.frozen (p := ⟨w2.heap.size + 1, s, none⟩) (by show _ < wb.heap.size; rw [eb]; show w2.heap.size + 1 < _; omega) (no _), ← ea]
    show (wa.alloc (.cells z8 34)).frozen? _ = _
    simp
  have f1 : ∀ s, (w8 w2).frozen? ⟨w2.heap.size + 1 + 1, s, none⟩ = false := fun s => by
    rw [kd.frozen (p := ⟨w2.heap.size + 1 + 1, s, none⟩) (by show _ < wc.heap.size; rw [ec]; show w2.heap.size + 1 + 1 < _; omega) (no _), ← eb]
    show (wb.alloc (.cells s8 35)).frozen? _ = _
    simp
  have f2 : ∀ s, (w8 w2).frozen? ⟨w2.heap.size + 1 + 1 + 1, s, none⟩ = false := fun s => by
    rw [← ec]
    show (wc.alloc (.cells b8 36)).frozen? _ = _
    simp
  refine ⟨⟨_, (Blks.new w2 w.heap.size hsz).still kb, ?_⟩, ?_, ?_, ?_, ?_, ?_, by rw [ed]; omega, ?_⟩
  · intro r hr e
    have e : R5 (w2.heap.size + 1) (w2.heap.size + 1 + 1) (w2.heap.size + 1 + 1 + 1) S V r = w2.heap.size := e
    match r, hr with
    | 0, _ => simp only [R5] at e; omega
    | 1, _ => simp only [R5] at e; omega
    | 2, _ => simp only [R5] at e; omega
    | 3, _ => simp only [R5] at e; omega
    | 4, _ => simp only [R5] at e; omega
  · intro r s hr hs
    match r, hr with
    | 0, _ => exact c0 s hs
    | 1, _ => exact c1 s hs
    | 2, _ => exact c2 s hs
    | 3, _ => exact (k2.cell (p := ⟨S, s, none⟩) (by show S < _; simp only [len5] at hs; omega) (no _)).trans (cs s hs)
    | 4, _ => exact (k2.cell (p := ⟨V, s, none⟩) (by show V < _; simp only [len5] at hs; omega) (no _)).trans (cv s hs)
  · intro r s hr
    match r, hr with
    | 0, _ => exact f0 s
    | 1, _ => exact f1 s
    | 2, _ => exact f2 s
  · intro r hr
    rw [ed]
    match r, hr with
    | 0, _ => simp only [R5]; omega
    | 1, _ => simp only [R5]; omega
    | 2, _ => simp only [R5]; omega
    | 3, _ => simp only [R5]; omega
    | 4, _ => simp only [R5]; omega
  · intro r hr
    match r, hr with
    | 0, _ => simp only [R5]; omega
    | 1, _ => simp only [R5]; omega
    | 2, _ => simp only [R5]; omega
  · intro r r' hr hr' hne hl
    match r, hr, r', hr' with
    | 0, _, 0, _ => exact absurd rfl hne
    | 0, _, 1, _ => simp only [R5]; omega
    | 0, _, 2, _ => simp only [R5]; omega
    | 0, _, 3, _ => simp only [R5, len5] at hl ⊢; omega
    | 0, _, 4, _ => simp only [R5, len5] at hl ⊢; omega
    | 1, _, 0, _ => simp only [R5]; omega
    | 1, _, 1, _ => exact absurd rfl hne
    | 1, _, 2, _ => simp only [R5]; omega
    | 1, _, 3, _ => simp only [R5, len5] at hl ⊢; omega
    | 1, _, 4, _ => simp only [R5, len5] at hl ⊢; omega
    | 2, _, 0, _ => simp only [R5]; omega
    | 2, _, 1, _ => simp only [R5]; omega
    | 2, _, 2, _ => exact absurd rfl hne
    | 2, _, 3, _ => simp only [R5, len5] at hl ⊢; omega
    | 2, _, 4, _ => simp only [R5, len5] at hl ⊢; omega
  · exact (((hb.alloc (by omega) _).alloc (by show _ ≤ wa.heap.size; omega) _).alloc (by show _ ≤ wb.heap.size; omega) _).alloc (by show _ ≤ wc.heap.size; omega) _
end Go.Proofs.Qxb6003690a
