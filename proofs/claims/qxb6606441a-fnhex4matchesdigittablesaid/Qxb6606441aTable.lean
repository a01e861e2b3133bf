/- The walk of FnHex4MatchesDigitTable. -/
import Derived.Test.Qxb6606441aReads
import Derived.Deep.OwnRows
import Derived.WalkSpells
namespace Go.Proofs.Qxb6606441a
open Go.RowKit Go.Deep
set_option linter.unusedVariables false

/-! ### cloneBytes -/
theorem info5 : (Try.prog.info? 5).map (fun i => (i.zero, i.size, i.bytes)) = some (some (.int .u8 0), 1, 1) := by kernel_rfl

theorem made_at (z : Value) (n j : Nat) (h : j < n) : (madeCells #[z] n)[j]? = some z := by
  simp [madeCells, h, Nat.mod_one]

/-- what the clone's loop keeps: the new row at block H = w.heap.size -/
def Cl (f : Nat → Value) (len k : Nat) (w wr : World) : Prop :=
  Below w.heap.size w wr ∧ w.heap.size < wr.heap.size ∧ (∀ j, wr.frozen? ⟨w.heap.size, j, none⟩ = false) ∧ ∃ g : Nat → Value, (∀ j, j < len → wr.cell? ⟨w.heap.size, j, none⟩ = some (g j)) ∧ ∀ j, j < k → g j = f j

theorem Cl.start (f : Nat → Value) (len : Nat) (w : World) (z : Value) (e : TypeId) : Cl f len 0 w (w.alloc (.cells (madeCells #[z] len) e)) :=
  ⟨(Below.refl _ _).alloc (Nat.le_refl _) _, by simp, fun j => by simp, fun _ => z, fun j hj => by simp [made_at z len j hj], fun j hj => by omega⟩

theorem Cl.step {f : Nat → Value} {len k : Nat} {w wr : World} (h : Cl f len k w wr) (hk : k < len) : Cl f len (k + 1) w (wr.setCell ⟨w.heap.size, k, none⟩ (f k)) := by
  obtain ⟨hb, hs, hf, g, hg, he⟩ := h
  refine ⟨hb.setCell (Nat.le_refl _) _, by simpa [World.setCell] using hs, fun j => by simp [hf j], fun j => if j = k then f k else g j, ?_, ?_⟩
  · intro j hj
    by_cases e : j = k
    · subst e
      simp [World.cell?_setCell_same _ _ _ (hg j hj)]
    · rw [World.cell?_setCell_other _ _ _ _ (by intro h; injection h; omega), hg j hj]; simp [e]
  · intro j hj
    by_cases e : j = k
    · simp [e]
    · simp only [if_neg e]; exact he j (by omega)

theorem Cl.done {f : Nat → Value} {len : Nat} {w wr : World} (h : Cl f len len w wr) : (∀ j, j < len → wr.cell? ⟨w.heap.size, j, none⟩ = some (f j)) ∧ Below w.heap.size w wr := by
  obtain ⟨hb, hs, hf, g, hg, he⟩ := h
  exact ⟨fun j hj => by rw [hg j hj, he j hj], hb⟩

theorem Cl.at {f : Nat → Value} {len k : Nat} {w wr : World} (h : Cl f len k w wr) (hk : k < len) : ∃ v, wr.cell? ⟨w.heap.size, k, none⟩ = some v := by
  obtain ⟨hb, hs, hf, g, hg, he⟩ := h
  exact ⟨_, hg k hk⟩

theorem lt_of_cell {w : World} {b o : Nat} {v : Value} (h : w.cell? ⟨b, o, none⟩ = some v) : b < w.heap.size := by
  rcases Nat.lt_or_ge b w.heap.size with h' | h'
  · exact h'
  · simp [World.cell?, Array.getElem?_eq_none h'] at h

set_option maxHeartbeats 400000 in
theorem clone_any (b off len cap : Nat) (c : Nat → Int) (w : World) (hl : len ≤ 1048576)
    (hc : ∀ j, j < len → w.cell? ⟨b, off + j, none⟩ = some (.int .u8 (c j))) :
    Calls Try.prog 8 #[.slice (some ⟨b, off, none⟩) len cap] w fun e w' => e = .returned (.slice (some ⟨w.heap.size, 0, none⟩) len len) ∧ (∀ j, j < len → w'.cell? ⟨w.heap.size, j, none⟩ = some (.int .u8 (c j))) ∧ Below w.heap.size w w' := by
  have hmk := fun w => run_make_row' (P := Try.prog) 22 5 (.int .u8 0) 1 Try.underlying22 info5 rfl .i64 .i64 len (by omega) (by omega) w
  have hnil := fun w => Lib.run_eql_slice_nil (P := Try.prog) w 22 5 (some ⟨b, off, none⟩) len cap 0 0 Try.underlying22
  go_enter Try.func8, Try.ntmps8
  go_wp2
  clear hmk hnil
  go_loopw [4] (fun i wr => ∃ k : Nat, k ≤ len ∧ i = .int .i64 k ∧ Cl (fun j => .int .u8 (c j)) len k w wr) (fun i _ => len - (intOf i).toNat)
  case atStart => exact ⟨0, Nat.zero_le _, rfl, Cl.start _ _ _ _ _⟩
  case round =>
    obtain ⟨k, hk, rfl, hcl⟩ := hrel
    by_cases hlt : k < len
    · have hck := hc k hlt
      have hbl := lt_of_cell hck
      have hck' : wr.cell? ⟨b, off + k, none⟩ = some (.int .u8 (c k)) := by rw [hcl.1.cell (p := ⟨b, off + k, none⟩) hbl]; exact hck
      have hfr := hcl.2.2.1 k
      obtain ⟨v, hv⟩ := hcl.at hlt
      have hs := hcl.2.1
      clear hck
      go_wp2
      go_roundw
      case rel => exact ⟨k + 1, by omega, by go_num, hcl.step hlt⟩
      case measure => simp [intOf]; omega
    · have : k = len := by omega
      subst this
      go_wp2
      go_ret
      exact ⟨rfl, hcl.done⟩

/-! ### zzBytes -/
theorem bytes_yes (a : Option Addr) (len cap : Nat) (w : World) (h : len ≤ 1048576) :
    Calls Try.prog 6 #[.slice a len cap] w fun e w' => e = .returned (.bool true) ∧ w' = w := by
  have h1 : ¬ (1048576 : Int) < (len : Int) := by omega
  go_enter Try.func6, Try.ntmps6
  go_wp2
  go_ret
  exact ⟨rfl, rfl⟩
theorem bytes_no (a : Option Addr) (len cap : Nat) (w : World) (h : ¬ len ≤ 1048576) :
    Calls Try.prog 6 #[.slice a len cap] w fun e w' => e = .returned (.bool false) ∧ w' = w := by
  have h1 : (1048576 : Int) < (len : Int) := by omega
  go_enter Try.func6, Try.ntmps6
  go_wp2
  go_ret
  exact ⟨rfl, rfl⟩

/-! ### hexDigitValue -/
theorem low_eq {k : Nat} {c : Int} (hk : k < 16) {h' : k < (ByteArray.mk #[48, 49, 50, 51, 52, 53, 54, 55, 56, 57, 97, 98, 99, 100, 101, 102]).size} (e : (((ByteArray.mk #[48, 49, 50, 51, 52, 53, 54, 55, 56, 57, 97, 98, 99, 100, 101, 102])[k]'h').toNat : Int) = c) : IsHex c (k : Int) := by
  rw [← e]; exact lower_hex k hk h'
theorem or_eq {k : Nat} {c : Int} (hk : k < 16) {h1 : k < (ByteArray.mk #[48, 49, 50, 51, 52, 53, 54, 55, 56, 57, 97, 98, 99, 100, 101, 102]).size} {h2 : k < (ByteArray.mk #[48, 49, 50, 51, 52, 53, 54, 55, 56, 57, 65, 66, 67, 68, 69, 70]).size}
    (e : ((((ByteArray.mk #[48, 49, 50, 51, 52, 53, 54, 55, 56, 57, 97, 98, 99, 100, 101, 102])[k]'h1).toNat : Int) == c) = true ∨ ((((ByteArray.mk #[48, 49, 50, 51, 52, 53, 54, 55, 56, 57, 65, 66, 67, 68, 69, 70])[k]'h2).toNat : Int) == c) = true) : IsHex c (k : Int) := by
  rcases e with e | e
  · rw [← eq_of_beq e]; exact lower_hex k hk h1
  · rw [← eq_of_beq e]; exact upper_hex k hk h2
theorem digit_any (c : Int) (w : World) : Calls Try.prog 7 #[.int .u8 c] w fun e w' => ∃ d : Int, e = .returned (.int .i64 d) ∧ w' = w ∧ (d = -1 ∨ IsHex c d) := by
  go_enter Try.func7, Try.ntmps7
  go_wp2
  go_loop [3] (fun i => ∃ k : Nat, k ≤ 16 ∧ i = .int .i64 k) (fun i => 16 - (intOf i).toNat)
  case atStart => exact ⟨0, by omega, rfl⟩
  case round =>
    obtain ⟨k, hk, rfl⟩ := hrel
    by_cases hlt : k < 16
    · have hk0 : (0:Int) ≤ (k : Int) := by omega
      have hk1 : (k:Int) < 16 := by omega
      go_wp2
      · go_ret
        exact ⟨k, rfl, rfl, .inr (low_eq hlt ‹_›)⟩
      · go_ret
        exact ⟨k, rfl, rfl, .inr (or_eq hlt ‹_›)⟩
      · go_round
        case rel => exact ⟨k + 1, by omega, by go_num⟩
        case measure => simp [intOf]; omega
    · go_wp2
      go_ret
      exact ⟨-1, rfl, rfl, .inl rfl⟩

/-! ### the law -/
def four (d0 d1 d2 d3 : Int) (j : Nat) : Int := if j = 0 then d0 else if j = 1 then d1 else if j = 2 then d2 else d3
theorem hv_four (d0 d1 d2 d3 : Int) : hv (four d0 d1 d2 d3) 4 = ((d0 * 16 + d1) * 16 + d2) * 16 + d3 := by simp [hv, four]

set_option maxHeartbeats 800000 in
theorem table_in (b off len cap : Nat) (c : Nat → Int) (w : World) (h4 : 4 ≤ len) (hl : len ≤ 1048576)
    (hc : ∀ j, j < len → w.cell? ⟨b, off + j, none⟩ = some (.int .u8 (c j))) :
    Calls Try.prog 3 #[.slice (some ⟨b, off, none⟩) len cap] w fun e w' => e = .returned (.bool true) ∧ Below w.heap.size w w' := by
  have c0 : w.cell? ⟨b, off, none⟩ = some (.int .u8 (c 0)) := hc 0 (by omega)
  have c1 := hc 1 (by omega)
  have c2 := hc 2 (by omega)
  have c3 := hc 3 (by omega)
  have i0 : (4 : Int) ≤ (len : Int) := by omega
  have i1 : (len : Int) ≤ 1048576 := by omega
  go_enter Try.func3, Try.ntmps3
  go_wp2_with fail
  refine (bytes_yes _ _ _ _ hl).mono ?_
  rintro e w' ⟨rfl, rfl⟩
  go_wp2_with fail
  refine (digit_any _ _).mono ?_
  rintro e w' ⟨d0, rfl, rfl, hd0⟩
  go_wp2_with fail
  refine (digit_any _ _).mono ?_
  rintro e w' ⟨d1, rfl, rfl, hd1⟩
  go_wp2_with fail
  refine (digit_any _ _).mono ?_
  rintro e w' ⟨d2, rfl, rfl, hd2⟩
  go_wp2_with fail
  refine (digit_any _ _).mono ?_
  rintro e w' ⟨d3, rfl, rfl, hd3⟩
  rcases hd0 with rfl | hd0
  · clear hd1 hd2 hd3
    go_wp2
    go_ret
    exact ⟨rfl, Below.refl _ _⟩
  have l0 := hd0.lo
  rcases hd1 with rfl | hd1
  · clear hd2 hd3
    go_wp2
    go_ret
    exact ⟨rfl, Below.refl _ _⟩
  have l1 := hd1.lo
  rcases hd2 with rfl | hd2
  · clear hd3
    go_wp2
    go_ret
    exact ⟨rfl, Below.refl _ _⟩
  have l2 := hd2.lo
  rcases hd3 with rfl | hd3
  · go_wp2
    go_ret
    exact ⟨rfl, Below.refl _ _⟩
  have l3 := hd3.lo
  go_wp2_with fail
  refine (clone_any b off len cap c _ hl hc).mono ?_
  rintro e w1 ⟨rfl, hc1, hb1⟩
  go_wp2_with fail
  refine (zzhex4_any _ len len 0 c (four d0 d1 d2 d3) _ (by omega) (by unfold maxLen; omega) (fun j hj => by simpa using hc1 j (by omega)) ?_).mono ?_
  · intro j hj
    have : j = 0 ∨ j = 1 ∨ j = 2 ∨ j = 3 := by omega
    rcases this with rfl | rfl | rfl | rfl <;> simpa [four]
  rintro e w2 ⟨rfl, rfl⟩
  go_wp2
  go_ret
  exact ⟨by rw [hv_four]; simp, hb1⟩

theorem table_long (a : Option Addr) (len cap : Nat) (w : World) (h : ¬ len ≤ 1048576) :
    Calls Try.prog 3 #[.slice a len cap] w fun e w' => e = .returned (.bool true) ∧ Below w.heap.size w w' := by
  go_enter Try.func3, Try.ntmps3
  go_wp2_with fail
  refine (bytes_no _ _ _ _ h).mono ?_
  rintro e w' ⟨rfl, rfl⟩
  go_wp2
  go_ret
  exact ⟨rfl, Below.refl _ _⟩
theorem table_short (a : Option Addr) (len cap : Nat) (w : World) (h : len < 4) :
    Calls Try.prog 3 #[.slice a len cap] w fun e w' => e = .returned (.bool true) ∧ Below w.heap.size w w' := by
  have i0 : (len : Int) < 4 := by omega
  go_enter Try.func3, Try.ntmps3
  go_wp2_with fail
  refine (bytes_yes _ _ _ _ (by omega)).mono ?_
  rintro e w' ⟨rfl, rfl⟩
  go_wp2
  go_ret
  exact ⟨rfl, Below.refl _ _⟩
end Go.Proofs.Qxb6606441a
