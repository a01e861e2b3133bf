/- The state's steps as calls. -/
import Derived.Test.Qxb6003690aSt
import Derived.Test.Qxb6003690aPut
import Derived.Test.Qxb6003690aGuards2
import Derived.Test.Qxb6003690aMore
namespace Go.Proofs.Qxb6003690a
open Go.RowKit Go.Deep
set_option linter.unusedVariables false

section
variable {w0 : World} {B P V S Hb n : Nat} {f : Nat → ByteArray} {sl : Nat → Int} {v : Value} {xs ms : List ByteArray} {hd : Nat → Nat} {wr : World}

theorem St.put_new (h : St w0 B P V S Hb n f sl v xs ms hd wr) (hn : xs.length ≤ 900000) {s : Nat} (hs : s < 2048) (h0 : hd s = 0) (item : ByteArray) :
    Calls Try.prog 24 #[.pointer (some ⟨P, 0, none⟩), .pointer (some ⟨Hb, s, none⟩), .string item] wr fun e w' => e = .returned (.tuple #[]) ∧ St w0 B P V S Hb n f sl v (xs ++ [item]) ms (upd hd s (xs.length + 1)) w' := by
  obtain ⟨F, hb, h1, h2, h3, h4⟩ := h.blks
  have c := h.hcell s hs
  rw [h0] at c
  refine put24 (Q := fun e w' => St w0 B P V S Hb n f sl v (xs ++ [item]) ms (upd hd s (xs.length + 1)) w') ((hb.put_new hn item Hb s c (h.hfro s) h1).mono ?_)
  rintro e w' ⟨rfl, w1, ha, rfl⟩
  refine ⟨rfl, ?_⟩
  have s1 := h.added hb h1 h2 h3 h4 ha (by simp)
  have s2 := s1.setH (s := s) (m := xs.length + 1) hs (by simp) (fun t ht hne => .inl (by have := h.le t ht; omega))
  simpa using s2

theorem St.put_old (h : St w0 B P V S Hb n f sl v xs ms hd wr) (hn : xs.length ≤ 900000) {s i : Nat} (hs : s < 2048) (hi : hd s = i + 1) (item : ByteArray) :
    Calls Try.prog 24 #[.pointer (some ⟨P, 0, none⟩), .pointer (some ⟨Hb, s, none⟩), .string item] wr fun e w' => e = .returned (.tuple #[]) ∧ St w0 B P V S Hb n f sl v (xs.set i item) ms hd w' := by
  obtain ⟨F, hb, h1, h2, h3, h4⟩ := h.blks
  have c := h.hcell s hs
  have hle := h.le s hs
  rw [hi] at c hle
  refine put24 (Q := fun e w' => St w0 B P V S Hb n f sl v (xs.set i item) ms hd w') ((hb.put_old hn item Hb s i xs[i] (List.getElem?_eq_getElem (by omega)) (by simpa using c)).mono ?_)
  rintro e w' ⟨rfl, g, j, hg, hb', rfl⟩
  refine ⟨rfl, ?_⟩
  have k : Kept (fun i => i = g) wr (wr.setCell ⟨g, j, none⟩ (.string item)) := (Kept.refl (fun i => i = g) wr).setCell (p := ⟨g, j, none⟩) (fun _ => rfl) _
  refine h.kept k (fun i e => by rw [e]; exact (hb.lt g hg).1) (fun e => h1 (by rw [e]; exact hg)) (fun _ e => h2 (by rw [e]; exact hg)) (fun _ e => h3 (by rw [e]; exact hg)) (fun i hi e => h4 i hi (by rw [e]; exact hg)) ⟨F, hb', h1, h2, h3, h4⟩ (by simp)

theorem St.zlen (h : St w0 B P V S Hb n f sl v xs ms hd wr) (hn : xs.length ≤ 900000) : Calls Try.prog 11 #[.pointer (some ⟨P, 0, none⟩)] wr fun e w' => e = .returned (.int .i64 (xs.length : Int)) ∧ St w0 B P V S Hb n f sl v xs ms hd w' := by
  obtain ⟨F, hb, _⟩ := h.blks
  exact (hb.zlen (by omega)).mono fun e w' ⟨he, k⟩ => ⟨he, h.still k⟩

theorem St.at (h : St w0 B P V S Hb n f sl v xs ms hd wr) (hn : xs.length ≤ 900000) (i : Nat) (s : ByteArray) (hi : xs[i]? = some s) :
    ∃ g, wr.cell? ⟨g, i % 1024, none⟩ = some (.string s) ∧ ∀ m, Calls Try.prog 27 #[.pointer (some ⟨P, 0, none⟩), .int .i64 i] (wr.drewN m) fun e w' => e = .returned (.pointer (some ⟨g, i % 1024, none⟩)) ∧ w' = wr.drewN m := by
  obtain ⟨F, hb, _⟩ := h.blks
  obtain ⟨g, _, hc, _, _, hcall⟩ := hb.at (by omega) i s hi
  exact ⟨g, hc, hcall⟩

/-- the model's value -/
theorem St.form (h : St w0 B P V S Hb n f sl v xs ms hd wr) : ∃ ao cap, v = .slice ao ms.length cap := by
  rcases h.model.2 with ⟨e, e0⟩ | ⟨g, cap, cur, e, _⟩
  · rw [e0]; exact ⟨_, _, e⟩
  · exact ⟨_, _, e⟩
theorem St.form_pos (h : St w0 B P V S Hb n f sl v xs ms hd wr) (hp : 0 < ms.length) : ∃ G cap, v = .slice (some ⟨G, 0, none⟩) ms.length cap := by
  obtain ⟨g, cap, hv, _⟩ := h.model.form hp
  exact ⟨g, cap, hv⟩
end

/-- the handles' cells -/
def h0 : Array Value := madeCells #[.int .i32 0] 2048
theorem inf21 : (Try.prog.info? 21).map (fun i => (i.zero, i.size, i.bytes)) = some (some (.int .i32 0), 1, 4) := by kernel_rfl
theorem mk2048 (w : World) : (Instr.makeSlice 47 (.int .i64 2048) (.int .i64 2048)).run Try.prog w = .ok (.slice (some ⟨w.heap.size, 0, none⟩) 2048 2048) (w.alloc (.cells h0 21)) :=
  run_make_row' (P := Try.prog) 47 21 (.int .i32 0) 4 Try.underlying47 inf21 rfl .i64 .i64 2048 (by omega) (by omega) w

/-- what a clone of whatever slice is good for -/
def ClonedAny (f : Nat → Value) (len : Nat) (w : World) (a : Option Addr) (w' : World) : Prop :=
  Below w.heap.size w w' ∧ (0 < len → a = some ⟨w.heap.size, 0, none⟩ ∧ Cloned f len w w')

theorem clone19_all (a : Option Addr) (len cap : Nat) (c : Nat → ByteArray) (w : World) (hl : len ≤ 1048576) (hs : Strs w a len c) (ha : a = none → cap = 0) :
    Calls Try.prog 19 #[.slice a len cap] w fun e w' => ∃ a' c', e = .returned (.slice a' len c') ∧ ClonedAny (fun j => .string (c j)) len w a' w' := by
  rcases Nat.eq_zero_or_pos len with h0 | h0
  · subst h0
    cases a with
    | none =>
      rw [ha rfl]
      exact (clone19_nil w).mono fun e w' ⟨a', c', he, hb⟩ => ⟨a', c', he, hb, fun h => by omega⟩
    | some x => exact (clone19_empty x cap w).mono fun e w' ⟨a', c', he, hb⟩ => ⟨a', c', he, hb, fun h => by omega⟩
  · rcases hs with h | ⟨b, off, rfl, hc⟩
    · omega
    · exact (clone19 b off len cap c w hl hc).mono fun e w' ⟨he, hcl⟩ => ⟨_, _, he, hcl.2.1, fun _ => ⟨rfl, hcl⟩⟩

/-- a slice of integers, as the walks are told of it -/
def Ints (k : IntKind) (w : World) (a : Option Addr) (len : Nat) (c : Nat → Int) : Prop := len = 0 ∨ ∃ b off, a = some ⟨b, off, none⟩ ∧ ∀ j, j < len → w.cell? ⟨b, off + j, none⟩ = some (.int k (c j))

theorem Ints.later {k : IntKind} {w w' : World} {a : Option Addr} {len : Nat} {c : Nat → Int} (h : Ints k w a len c) (hb : Below w.heap.size w w') : Ints k w' a len c := by
  rcases h with h | ⟨b, off, rfl, hc⟩
  · exact .inl h
  · exact .inr ⟨b, off, rfl, fun j hj => (hb.cell (p := ⟨b, off + j, none⟩) (lt_of_cell (hc j hj))).trans (hc j hj)⟩
theorem Strs.later {w w' : World} {a : Option Addr} {len : Nat} {c : Nat → ByteArray} (h : Strs w a len c) (hb : Below w.heap.size w w') : Strs w' a len c := by
  rcases h with h | ⟨b, off, rfl, hc⟩
  · exact .inl h
  · exact .inr ⟨b, off, rfl, fun j hj => (hb.cell (p := ⟨b, off + j, none⟩) (lt_of_cell (hc j hj))).trans (hc j hj)⟩

theorem clone23_all (a : Option Addr) (len cap : Nat) (c : Nat → Int) (w : World) (hl : len ≤ 1048576) (hs : Ints .u16 w a len c) (ha : a = none → cap = 0) :
    Calls Try.prog 23 #[.slice a len cap] w fun e w' => ∃ a' c', e = .returned (.slice a' len c') ∧ ClonedAny (fun j => .int .u16 (c j)) len w a' w' := by
  rcases Nat.eq_zero_or_pos len with h0 | h0
  · subst h0
    cases a with
    | none =>
      rw [ha rfl]
      exact (clone23_nil w).mono fun e w' ⟨a', c', he, hb⟩ => ⟨a', c', he, hb, fun h => by omega⟩
    | some x => exact (clone23_empty x cap w).mono fun e w' ⟨a', c', he, hb⟩ => ⟨a', c', he, hb, fun h => by omega⟩
  · rcases hs with h | ⟨b, off, rfl, hc⟩
    · omega
    · exact (clone23 b off len cap c w hl hc).mono fun e w' ⟨he, hcl⟩ => ⟨_, _, he, hcl.2.1, fun _ => ⟨rfl, hcl⟩⟩

/-- the state at the start of the script -/
theorem St.start {w w2 : World} {V S n : Nat} {f : Nat → ByteArray} {sl : Nat → Int} (hb : Below w.heap.size w w2) (hV : V < w2.heap.size ∨ (n = 0 ∧ V = w2.heap.size + 1)) (hS : S < w2.heap.size ∨ (n = 0 ∧ S = w2.heap.size + 1)) (hv : ∀ j, j < n → w2.cell? ⟨V, j, none⟩ = some (.string (f j))) (hs : ∀ j, j < n → w2.cell? ⟨S, j, none⟩ = some (.int .u16 (sl j))) :
    St w w.heap.size w2.heap.size V S (w2.heap.size + 1) n f sl (.slice none 0 0) [] [] (fun _ => 0) ((w2.alloc (.cells #[.slice none 0 0] 41)).alloc (.cells h0 21)) := by
  have hsz := hb.size
  have k : Kept NoF (w2.alloc (.cells #[.slice none 0 0] 41)) ((w2.alloc (.cells #[.slice none 0 0] 41)).alloc (.cells h0 21)) := (Kept.refl _ _).alloc _
  have k2 : Kept NoF w2 ((w2.alloc (.cells #[.slice none 0 0] 41)).alloc (.cells h0 21)) := ((Kept.refl _ _).alloc _).alloc _
  have e1 : (w2.alloc (.cells #[.slice none 0 0] 41)).heap.size = w2.heap.size + 1 := by simp
  refine ⟨⟨_, (Blks.new w2 w.heap.size hsz).still k, by show ¬ (w2.heap.size + 1 = w2.heap.size); omega, by show ¬ (V = w2.heap.size); omega, by show ¬ (S = w2.heap.size); omega, fun i hi => by simp [Value.ownBlock] at hi⟩, World.ownsRow_nil _ _ _ _, by simp [Value.ownBlock], by simp [Value.ownBlock], by simp [Value.ownBlock], ?_, ?_, fun s hs => Nat.zero_le _, fun s s' _ _ _ h => absurd rfl h,
    fun j hj => (k2.cell (p := ⟨V, j, none⟩) (by show V < _; omega) (fun x => x)).trans (hv j hj), fun j hj => (k2.cell (p := ⟨S, j, none⟩) (by show S < _; omega) (fun x => x)).trans (hs j hj), by simp, by simp; omega, by simp; omega, by simp; omega, by omega, fun _ => by omega, fun _ => by omega, (hb.alloc (by omega) _).alloc (by simp; omega) _⟩
  · intro s hs
    rw [← e1]
    rw [World.cell?_alloc_new]
    exact made_at (.int .i32 0) 2048 s hs
  · intro s
    rw [← e1]
    simp

/-- the two clones, as the script finds them -/
theorem St.begin {w w1 w2 : World} {f : Nat → ByteArray} {sl : Nat → Int} {av ax : Option Addr} {lv ls n : Nat} (hv : n ≤ lv) (hs : n ≤ ls) (c1 : ClonedAny (fun j => .string (f j)) lv w av w1) (c2 : ClonedAny (fun j => .int .u16 (sl j)) ls w1 ax w2) :
    ∃ V S, (0 < n → av = some ⟨V, 0, none⟩ ∧ ax = some ⟨S, 0, none⟩) ∧ St w w.heap.size w2.heap.size V S (w2.heap.size + 1) n f sl (.slice none 0 0) [] [] (fun _ => 0) ((w2.alloc (.cells #[.slice none 0 0] 41)).alloc (.cells h0 21)) := by
  have hb : Below w.heap.size w w2 := c1.1.trans (c2.1.mono c1.1.size)
  rcases Nat.eq_zero_or_pos n with h | h
  · subst h
    exact ⟨w2.heap.size + 1, w2.heap.size + 1, fun q => by omega, St.start hb (.inr ⟨rfl, rfl⟩) (.inr ⟨rfl, rfl⟩) (fun j hj => by omega) (fun j hj => by omega)⟩
  · obtain ⟨e1, d1⟩ := c1.2 (by omega)
    obtain ⟨e2, d2⟩ := c2.2 (by omega)
    have l1 := d1.2.2
    have l2 := d2.2.2
    exact ⟨w.heap.size, w1.heap.size, fun _ => ⟨e1, e2⟩, St.start hb (.inl (by omega)) (.inl l2) (fun j hj => (c2.1.cell (p := ⟨w.heap.size, j, none⟩) l1).trans (d1.1 j (by omega))) (fun j hj => d2.1 j (by omega))⟩

/-- the owners' loop: s handles have been looked at -/
def Own (w0 : World) (B P O Hb : Nat) (f : Nat → ByteArray) (sl : Nat → Int) (v : Value) (xs : List ByteArray) (hd : Nat → Nat) (s : Nat) (wx : World) : Prop :=
  St w0 B P O O Hb 0 f sl v xs xs hd wx ∧ Hb ≠ O ∧ B ≤ O ∧ (∀ j, wx.frozen? ⟨O, j, none⟩ = false) ∧ ∃ ow : Nat → Bool, (∀ j, j < xs.length → wx.cell? ⟨O, j, none⟩ = some (.bool (ow j))) ∧ ∀ j, j < xs.length → ow j = true → ∃ t, t < s ∧ hd t = j + 1

section
variable {w0 : World} {B P V S Hb n : Nat} {f : Nat → ByteArray} {sl : Nat → Int} {v : Value} {xs ms : List ByteArray} {hd : Nat → Nat} {wr : World} {O s : Nat}

theorem Own.start (h : St w0 B P V S Hb n f sl v xs xs hd wr) : Own w0 B P wr.heap.size Hb f sl v xs hd 0 (wr.alloc (.cells (madeCells #[.bool false] xs.length) 4)) := by
  refine ⟨h.tail _, by have := h.ltH; omega, h.hB, fun j => by simp, fun _ => false, fun j hj => ?_, fun j hj e => by cases e⟩
  rw [World.cell?_alloc_new]
  exact made_at (.bool false) xs.length j hj

theorem Own.skip (h : Own w0 B P O Hb f sl v xs hd s wr) : Own w0 B P O Hb f sl v xs hd (s + 1) wr := by
  obtain ⟨a, b, c, d, ow, e, g⟩ := h
  exact ⟨a, b, c, d, ow, e, fun j hj ht => by obtain ⟨t, h1, h2⟩ := g j hj ht; exact ⟨t, by omega, h2⟩⟩

/-- the owner that is asked for is not yet set -/
theorem Own.free (h : Own w0 B P O Hb f sl v xs hd s wr) (hs : s < 2048) {j : Nat} (hj : hd s = j + 1) : j < xs.length ∧ wr.cell? ⟨O, j, none⟩ = some (.bool false) ∧ wr.frozen? ⟨O, j, none⟩ = false := by
  obtain ⟨a, b, c, d, ow, e, g⟩ := h
  have hl : j < xs.length := by have := a.le s hs; omega
  refine ⟨hl, ?_, d j⟩
  rw [e j hl]
  cases hq : ow j with
  | false => rfl
  | true =>
    obtain ⟨t, h1, h2⟩ := g j hl hq
    have := a.inj t s (by omega) hs (by omega) (by omega)
    omega

theorem Own.step (h : Own w0 B P O Hb f sl v xs hd s wr) {j : Nat} (hj : hd s = j + 1) (hl : j < xs.length) : Own w0 B P O Hb f sl v xs hd (s + 1) (wr.setCell ⟨O, j, none⟩ (.bool true)) := by
  obtain ⟨a, b, c, d, ow, e, g⟩ := h
  refine ⟨a.setV b c j _, b, c, fun i => by simp [d i], fun i => if i = j then true else ow i, fun i hi => ?_, fun i hi ht => ?_⟩
  · by_cases q : i = j
    · subst q
      rw [World.cell?_setCell_same _ _ _ (e i hi)]
      simp
    · rw [World.cell?_setCell_other _ _ _ _ (by intro h; injection h; omega), e i hi]
      simp [q]
  · by_cases q : i = j
    · exact ⟨s, by omega, by rw [q]; exact hj⟩
    · simp only [if_neg q] at ht
      obtain ⟨t, h1, h2⟩ := g i hi ht
      exact ⟨t, by omega, h2⟩
end
end Go.Proofs.Qxb6003690a
