/- The walk of FnBlocksAddIndexesInOrder. -/
import Derived.Test.Qxb6003690aMore
namespace Go.Proofs.Qxb6003690a
open Go.RowKit Go.Deep
set_option linter.unusedVariables false

set_option maxHeartbeats 1600000 in
theorem order_in (b off len cap : Nat) (c : Nat → ByteArray) (w : World) (h0 : 0 < len) (hm : len ≤ maxLen)
    (hc : ∀ j, j < len → w.cell? ⟨b, off + j, none⟩ = some (.string (c j))) :
    Calls Try.prog 3 #[.slice (some ⟨b, off, none⟩) len cap] w fun e w' => e = .returned (.bool true) ∧ Below w.heap.size w w' := by
  have hs : Hid (Strs w (some ⟨b, off, none⟩) len c) := .inr ⟨b, off, rfl, hc⟩
  have HC : Hid (∀ j, j < len → w.cell? ⟨b, off + j, none⟩ = some (.string (c j))) := hc
  clear hc
  go_enter Try.func3, Try.ntmps3
  go_wp2_with fail
  refine (bytes7 _ _ _ c _ hs hm).mono ?_
  rintro e w' ⟨t, rfl, rfl, _⟩
  cases t
  · go_wp2
    go_ret
    exact ⟨rfl, Below.refl _ _⟩
  by_cases hl' : (4096 : Int) < (len : Int)
  · go_wp2
    go_ret
    exact ⟨rfl, Below.refl _ _⟩
  have hl : len ≤ 4096 := by omega
  go_wp2_with fail
  refine (sbytes8 _ _ _ c _ hs hm).mono ?_
  rintro e w'' ⟨t, rfl, rfl⟩
  by_cases ht : (1048576 : Int) < t
  · go_wp2
    go_ret
    exact ⟨rfl, Below.refl _ _⟩
  go_wp2_with fail
  refine (clone9 b off len cap c _ (by omega) HC.out).mono ?_
  rintro e w1 ⟨rfl, hcl⟩
  have I0 : Hid _ := Inv.start hcl
  clear hcl
  generalize hP : w1.heap.size = P at I0
  have HP : Hid (w1.heap.size = P) := hP
  go_wp2_with fail
  refine (new10 _).mono ?_
  rintro e w5 ⟨rfl, rfl⟩
  go_wp2_with fail
  clear hP
  refine (I0.out.zlen (by simp)).mono ?_
  rintro e w2 ⟨rfl, I1'⟩
  have I1 : Hid (Inv w''.heap.size P w''.heap.size len (fun j => Value.string (c j)) (pre c 0) w'' w2) := I1'
  clear I1' I0
  go_wp2
  go_loopw [4] (fun i wr => ∃ k : Nat, k ≤ len ∧ i = .int .i64 k ∧ Inv w''.heap.size P w''.heap.size len (fun j => Value.string (c j)) (pre c k) w'' wr) (fun i _ => len - (intOf i).toNat)
  case atStart => exact ⟨0, Nat.zero_le _, rfl, I1.out⟩
  case round =>
    obtain ⟨k, hk, rfl, hI⟩ := hrel
    have I2 : Hid _ := hI
    by_cases hlt : k < len
    · have hck := hI.clone k hlt
      have pl := pre_length c k
      clear hI
      go_wp2_with fail
      refine (I2.out.zadd (by omega) (c k)).mono ?_
      rw [← pre_succ, pl]
      rintro e w3 ⟨rfl, I3'⟩
      have I3 : Hid _ := I3'
      clear I3'
      go_wp2_with fail
      refine (I3.out.zlen (by rw [pre_length]; omega)).mono ?_
      rw [pre_length]
      rintro e w4 ⟨rfl, I4'⟩
      have I4 : Hid _ := I4'
      clear I4'
      go_wp2
      go_roundw
      case rel => exact ⟨k + 1, by omega, by go_num, I4.out⟩
      case measure => simp [intOf]; omega
    · have : k = len := by omega
      subst this
      clear hI I1 hs HC
      go_wp2
      go_loopw [5] (fun i wx => ∃ j : Nat, j ≤ k ∧ i = .int .i64 j ∧ Inv w''.heap.size P w''.heap.size k (fun j => Value.string (c j)) (pre c k) w'' wx) (fun i _ => k - (intOf i).toNat)
      case atStart => exact ⟨0, Nat.zero_le _, rfl, I2.out⟩
      case round =>
        obtain ⟨j, hj, rfl, hI⟩ := hrel
        have I3 : Hid _ := hI
        by_cases hlt : j < k
        · have hck := hI.clone j hlt
          obtain ⟨g, hgc, hcall⟩ := hI.at (by rw [pre_length]; omega) j (c j) (pre_at c hlt)
          have CA : Hid _ := zat1_of hcall hgc
          clear hI hcall
          have j0 : (0 : Int) ≤ (j : Int) := by omega
          have j1 : (j : Int) < (k : Int) := by omega
          go_wp2
          go_quiet ((go_at_call 13; exact Calls.quiet_of_same (CA.out _)))
          go_wp2
          go_roundw
          case rel => exact ⟨j + 1, by omega, by go_num, I3.out.still (kept_drewN _ _)⟩
          case measure => simp [intOf]; omega
        · clear hI
          go_wp2
          go_ret
          exact ⟨rfl, I3.out.below⟩

set_option maxHeartbeats 800000 in
theorem order_zero (a : Option Addr) (cap : Nat) (w : World) (h : a = none → cap = 0) :
    Calls Try.prog 3 #[.slice a 0 cap] w fun e w' => e = .returned (.bool true) ∧ Below w.heap.size w w' := by
  have H : Hid (a = none → cap = 0) := h
  clear h
  have hs : Hid (Strs w a 0 (fun _ => ByteArray.empty)) := .inl rfl
  go_enter Try.func3, Try.ntmps3
  go_wp2_with fail
  refine (bytes7 _ _ _ _ _ hs (by decide)).mono ?_
  rintro e w' ⟨t, rfl, rfl, _⟩
  cases t
  · go_wp2
    go_ret
    exact ⟨rfl, Below.refl _ _⟩
  go_wp2_with fail
  refine (sbytes8 _ _ _ _ _ hs (by decide)).mono ?_
  rintro e w'' ⟨t, rfl, rfl⟩
  by_cases ht : (1048576 : Int) < t
  · go_wp2
    go_ret
    exact ⟨rfl, Below.refl _ _⟩
  clear hs
  go_wp2_with fail
  refine (clone9_zero a cap _ H.out).mono ?_
  rintro e w1 ⟨a', c', rfl, hb⟩
  have HB : Hid _ := hb
  have B0 : Hid _ := Blks.new w1 w1.heap.size (Nat.le_refl _)
  clear hb
  go_wp2_with fail
  refine (new10 _).mono ?_
  rintro e w5 ⟨rfl, rfl⟩
  go_wp2_with fail
  refine (Blks.zlen B0.out (by simp)).mono ?_
  rintro e w2 ⟨rfl, hk⟩
  have K : Hid _ := hk
  have S : Hid (w''.heap.size ≤ w1.heap.size) := HB.out.size
  clear hk
  go_wp2
  refine wp_loop_rounds 1 ?_
  rw [rounds_succ]
  go_wp2
  refine wp_loop_rounds 1 ?_
  rw [rounds_succ]
  go_wp2
  go_ret
  exact ⟨rfl, (HB.out.alloc S.out _).trans (K.out.below (by have := S.out; simp; omega) (fun _ x => x.elim))⟩
end Go.Proofs.Qxb6003690a
