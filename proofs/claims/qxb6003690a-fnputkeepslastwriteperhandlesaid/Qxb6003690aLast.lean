/- The walk of FnPutKeepsLastWritePerHandle. -/
import Derived.Test.Qxb6003690aStOps
import Derived.Deep.RegionWith
import Derived.Test.Qxb6003690aMem
namespace Go.Proofs.Qxb6003690a
open Go.RowKit Go.Deep
set_option linter.unusedVariables false

theorem clone9_all (a : Option Addr) (len cap : Nat) (c : Nat → ByteArray) (w : World) (hl : len ≤ 1048576) (hs : Strs w a len c) (ha : a = none → cap = 0) :
    Calls Try.prog 9 #[.slice a len cap] w fun e w' => ∃ a' c', e = .returned (.slice a' len c') ∧ ClonedAny (fun j => .string (c j)) len w a' w' := by
  rcases Nat.eq_zero_or_pos len with h0 | h0
  · subst h0
    cases a with
    | none =>
      rw [ha rfl]
      exact (clone9_nil w).mono fun e w' ⟨a', c', he, hb⟩ => ⟨a', c', he, hb, fun h => by omega⟩
    | some x => exact (clone9_empty x cap w).mono fun e w' ⟨a', c', he, hb⟩ => ⟨a', c', he, hb, fun h => by omega⟩
  · rcases hs with h | ⟨b, off, rfl, hc⟩
    · omega
    · exact (clone9 b off len cap c w hl hc).mono fun e w' ⟨he, hcl⟩ => ⟨_, _, he, hcl.2.1, fun _ => ⟨rfl, hcl⟩⟩

theorem clone15_all (a : Option Addr) (len cap : Nat) (c : Nat → Int) (w : World) (hl : len ≤ 1048576) (hs : Ints .u8 w a len c) (ha : a = none → cap = 0) :
    Calls Try.prog 15 #[.slice a len cap] w fun e w' => ∃ a' c', e = .returned (.slice a' len c') ∧ ClonedAny (fun j => .int .u8 (c j)) len w a' w' := by
  rcases Nat.eq_zero_or_pos len with h0 | h0
  · subst h0
    cases a with
    | none =>
      rw [ha rfl]
      exact (clone15_nil w).mono fun e w' ⟨a', c', he, hb⟩ => ⟨a', c', he, hb, fun h => by omega⟩
    | some x => exact (clone15_empty x cap w).mono fun e w' ⟨a', c', he, hb⟩ => ⟨a', c', he, hb, fun h => by omega⟩
  · rcases hs with h | ⟨b, off, rfl, hc⟩
    · omega
    · exact (clone15 b off len cap c w hl hc).mono fun e w' ⟨he, hcl⟩ => ⟨_, _, he, hcl.2.1, fun _ => ⟨rfl, hcl⟩⟩

/-- the two clones, as the script finds them -/
theorem Mem.begin {w w1 w2 : World} {f : Nat → ByteArray} {sl : Nat → Int} {ax av : Option Addr} {ls lv : Nat} (c1 : ClonedAny (fun j => .int .u8 (sl j)) ls w ax w1) (c2 : ClonedAny (fun j => .string (f j)) lv w1 av w2) :
    ∃ S V, (0 < ls → ax = some ⟨S, 0, none⟩) ∧ (0 < lv → av = some ⟨V, 0, none⟩) ∧ Mem w w.heap.size w2.heap.size (R5 (w2.heap.size + 1) (w2.heap.size + 1 + 1) (w2.heap.size + 1 + 1 + 1) S V) (len5 ls lv) (val5 (fun _ => 0) (fun _ => ⟨#[]⟩) (fun _ => false) sl f) [] (w8 w2) := by
  have hb : Below w.heap.size w w2 := c1.1.trans (c2.1.mono c1.1.size)
  have z1 := c1.1.size
  have z2 := c2.1.size
  obtain ⟨S, hS, eS, cS⟩ : ∃ S, (S < w2.heap.size ∨ (ls = 0 ∧ S = w2.heap.size + 1)) ∧ (0 < ls → ax = some ⟨S, 0, none⟩) ∧ ∀ j, j < ls → w2.cell? ⟨S, j, none⟩ = some (.int .u8 (sl j)) := by
    rcases Nat.eq_zero_or_pos ls with h | h
    · exact ⟨w2.heap.size + 1, .inr ⟨h, rfl⟩, fun q => by omega, fun j hj => by omega⟩
    · obtain ⟨e1, d1⟩ := c1.2 h
      have l1 := d1.2.2
      exact ⟨w.heap.size, .inl (by omega), fun _ => e1, fun j hj => (c2.1.cell (p := ⟨w.heap.size, j, none⟩) l1).trans (d1.1 j hj)⟩
  obtain ⟨V, hV, eV, cV⟩ : ∃ V, (V < w2.heap.size ∨ (lv = 0 ∧ V = w2.heap.size + 1)) ∧ (0 < lv → av = some ⟨V, 0, none⟩) ∧ ∀ j, j < lv → w2.cell? ⟨V, j, none⟩ = some (.string (f j)) := by
    rcases Nat.eq_zero_or_pos lv with h | h
    · exact ⟨w2.heap.size + 1, .inr ⟨h, rfl⟩, fun q => by omega, fun j hj => by omega⟩
    · obtain ⟨e1, d1⟩ := c2.2 h
      exact ⟨w1.heap.size, .inl d1.2.2, fun _ => e1, fun j hj => d1.1 j hj⟩
  exact ⟨S, V, eS, eV, Mem.start hb hS hV cS cV⟩

set_option maxRecDepth 100000 in
set_option maxHeartbeats 6400000 in
theorem last_any (a0 a1 : Option Addr) (ls cs lv cv : Nat) (f : Nat → ByteArray) (z : Nat → Nat) (w : World) (mv : lv ≤ maxLen) (ms : ls ≤ maxLen) (hz : ∀ j, z j ≤ 255)
    (n0 : a0 = none → cs = 0) (n1 : a1 = none → cv = 0) (hs : Ints .u8 w a0 ls (fun j => (z j : Int))) (hv : Strs w a1 lv f) :
    Calls Try.prog 4 #[.slice a0 ls cs, .slice a1 lv cv] w fun e w' => e = .returned (.bool true) ∧ Below w.heap.size w w' := by
  have HV := hid hv
  have HS := hid hs
  have HZ := hid hz
  have N0 := hid n0
  have N1 := hid n1
  clear hv hs hz n0 n1
  go_enter Try.func4, Try.ntmps4
  go_wp2_with fail
  refine (bytes14 _ _ _ f _ _ _ _ HV.out mv ms).mono ?_
  rintro e w' ⟨t, rfl, rfl, _⟩
  cases t
  · go_wp2
    go_ret
    exact ⟨rfl, Below.refl _ _⟩
  by_cases hls : (4096 : Int) < (ls : Int)
  · go_wp2
    go_ret
    exact ⟨rfl, Below.refl _ _⟩
  by_cases hlv : (4096 : Int) < (lv : Int)
  · go_wp2
    go_ret
    exact ⟨rfl, Below.refl _ _⟩
  have hl1 : ls ≤ 4096 := by omega
  have hl2 : lv ≤ 4096 := by omega
  go_wp2_with fail
  refine (sbytes8 _ _ _ f _ HV.out mv).mono ?_
  rintro e w'' ⟨t, rfl, rfl⟩
  by_cases ht : (1048576 : Int) < wrap64 ((ls : Int) + t)
  · go_wp2
    go_ret
    exact ⟨rfl, Below.refl _ _⟩
  go_wp2_with fail
  refine (clone15_all a0 ls cs (fun j => (z j : Int)) _ (by omega) HS.out N0.out).mono ?_
  rintro e w1 ⟨ax, cs', rfl, hc1⟩
  have C1 := hid hc1
  have S1 := hid (HV.out.later hc1.1)
  clear hc1
  go_wp2_with fail
  refine (clone9_all a1 lv cv f _ (by omega) S1.out N1.out).mono ?_
  rintro e w2 ⟨av, cv', rfl, hc2⟩
  have C2 := hid hc2
  clear hc2
  go_wp2_with fail
  refine (new10 _).mono ?_
  rintro e w3 ⟨rfl, rfl⟩
  obtain ⟨S, V, hS, hV, hM0⟩ := Mem.begin C1.out C2.out
  have I0 := hid hM0
  have HSS := hid hS
  have HVV := hid hV
  generalize hP : w2.heap.size = P at I0
  have HP := hid hP
  clear C1 C2 S1 HS HV hM0 hS hV N0 N1
  go_wp2
  clear hP
  go_loopw [9] (fun i wr => ∃ (k : Nat) (xs : List ByteArray) (hd : Nat → Nat) (la : Nat → ByteArray) (us : Nat → Bool), k ≤ ls ∧ i = .int .i64 k ∧ Mem w'' w''.heap.size P (R5 (P + 1) (P + 1 + 1) (P + 1 + 1 + 1) S V) (len5 ls lv) (val5 hd la us (fun j => (z j : Int)) f) xs wr ∧ Logic xs hd la us) (fun i _ => ls - (intOf i).toNat)
  case atStart => exact ⟨0, [], _, _, _, Nat.zero_le _, rfl, I0.out, Logic.start⟩
  case round =>
    obtain ⟨k, xs, hd, la, us, hk, rfl, hM, hL⟩ := hrel
    have I1 := hid hM
    have G1 := hid hL
    have hsm := hL.small
    by_cases hkn : k < ls
    · have ev := HSS.out (by omega)
      subst ev
      have hcs : wr.cell? ⟨S, k, none⟩ = some (.int .u8 (z k : Int)) := hM.cells 3 k (by omega) hkn
      have hzk := HZ.out k
      by_cases hkv : k < lv
      · have ev2 := HVV.out (by omega)
        subst ev2
        have hcv : wr.cell? ⟨V, k, none⟩ = some (.string (f k)) := hM.cells 4 k (by omega) hkv
        have i4 : (k : Int) < (lv : Int) := by omega
        by_cases h0 : hd (z k % 8) = 0
        ·
          have i0 : (0 : Int) ≤ (z k : Int) % 8 := by omega
          have i1 : (z k : Int) % 8 < 8 := by omega
          have i3 : (0 : Int) ≤ (k : Int) := by omega
          have PN := hid (hM.put_new (by omega) (s := z k % 8) (by show _ < 8; omega) (by show Value.int .i32 ((hd (z k % 8) : Nat) : Int) = _; rw [h0]; rfl) (f k))
          have HG := hid (hL.add (s := z k % 8) (by omega) h0 (f k))
          clear hM hL h0
          go_wp2_with fail
          refine PN.out.mono ?_
          rintro e w5 ⟨rfl, hM2⟩
          have I2 := hid hM2
          have g1 : w5.cell? ⟨P + 1 + 1, z k % 8, none⟩ = _ := hM2.cells 1 (z k % 8) (by omega) (by show _ < 8; omega)
          have g2 : w5.cell? ⟨P + 1 + 1 + 1, z k % 8, none⟩ = _ := hM2.cells 2 (z k % 8) (by omega) (by show _ < 8; omega)
          have q1 : w5.frozen? ⟨P + 1 + 1, z k % 8, none⟩ = false := hM2.fro 1 (z k % 8) (by omega)
          have q2 : w5.frozen? ⟨P + 1 + 1 + 1, z k % 8, none⟩ = false := hM2.fro 2 (z k % 8) (by omega)
          have I3 : Hid (Mem w'' w''.heap.size P (R5 (P + 1) (P + 1 + 1) (P + 1 + 1 + 1) S V) (len5 ls lv) (val5 (setAt hd (z k % 8) (xs.length + 1)) (setAt la (z k % 8) (f k)) (setAt us (z k % 8) true) (fun j => (z j : Int)) f) (xs ++ [(f k)]) ((w5.setCell ⟨P + 1 + 1, z k % 8, none⟩ (.string (f k))).setCell ⟨P + 1 + 1 + 1, z k % 8, none⟩ (.bool true))) :=
            ((hM2.set (r := 1) (s := z k % 8) (by omega) (by show _ < 8; omega) (.string (f k))).set (r := 2) (s := z k % 8) (by omega) (by show _ < 8; omega) (.bool true)).congr (fun r t _ _ => val5_set hd la us _ f (z k % 8) xs.length (f k) r t)
          clear hM2
          go_wp2
          go_roundw
          case rel => exact ⟨k + 1, _, _, _, _, by omega, by go_num, I3.out, HG.out⟩
          case measure => simp [intOf]; omega
        ·
          have i0 : (0 : Int) ≤ (z k : Int) % 8 := by omega
          have i1 : (z k : Int) % 8 < 8 := by omega
          have i3 : (0 : Int) ≤ (k : Int) := by omega
          obtain ⟨i, hi⟩ : ∃ i, hd (z k % 8) = i + 1 := ⟨hd (z k % 8) - 1, by omega⟩
          obtain ⟨x, hx⟩ := hL.item (s := z k % 8) (by omega) hi
          have PN := hid (hM.put_old (by omega) (s := z k % 8) (i := i) (by show _ < 8; omega) hx (by show Value.int .i32 ((hd (z k % 8) : Nat) : Int) = _; rw [hi]; simp) (f k))
          have HG := hid (hL.set (s := z k % 8) (by omega) hi (f k))
          clear hM hL h0 hi hx
          go_wp2_with fail
          refine PN.out.mono ?_
          rintro e w5 ⟨rfl, hM2⟩
          have I2 := hid hM2
          have g1 : w5.cell? ⟨P + 1 + 1, z k % 8, none⟩ = _ := hM2.cells 1 (z k % 8) (by omega) (by show _ < 8; omega)
          have g2 : w5.cell? ⟨P + 1 + 1 + 1, z k % 8, none⟩ = _ := hM2.cells 2 (z k % 8) (by omega) (by show _ < 8; omega)
          have q1 : w5.frozen? ⟨P + 1 + 1, z k % 8, none⟩ = false := hM2.fro 1 (z k % 8) (by omega)
          have q2 : w5.frozen? ⟨P + 1 + 1 + 1, z k % 8, none⟩ = false := hM2.fro 2 (z k % 8) (by omega)
          have I3 : Hid (Mem w'' w''.heap.size P (R5 (P + 1) (P + 1 + 1) (P + 1 + 1 + 1) S V) (len5 ls lv) (val5 hd (setAt la (z k % 8) (f k)) (setAt us (z k % 8) true) (fun j => (z j : Int)) f) (xs.set i (f k)) ((w5.setCell ⟨P + 1 + 1, z k % 8, none⟩ (.string (f k))).setCell ⟨P + 1 + 1 + 1, z k % 8, none⟩ (.bool true))) :=
            ((hM2.set (r := 1) (s := z k % 8) (by omega) (by show _ < 8; omega) (.string (f k))).set (r := 2) (s := z k % 8) (by omega) (by show _ < 8; omega) (.bool true)).congr (fun r t _ _ => val5_set2 hd la us _ f (z k % 8) (f k) r t)
          clear hM2
          go_wp2
          go_roundw
          case rel => exact ⟨k + 1, _, _, _, _, by omega, by go_num, I3.out, HG.out⟩
          case measure => simp [intOf]; omega
      · have i4 : ¬ ((k : Int) < (lv : Int)) := by omega
        by_cases h0 : hd (z k % 8) = 0
        ·
          have i0 : (0 : Int) ≤ (z k : Int) % 8 := by omega
          have i1 : (z k : Int) % 8 < 8 := by omega
          have i3 : (0 : Int) ≤ (k : Int) := by omega
          have PN := hid (hM.put_new (by omega) (s := z k % 8) (by show _ < 8; omega) (by show Value.int .i32 ((hd (z k % 8) : Nat) : Int) = _; rw [h0]; rfl) (⟨#[]⟩ : ByteArray))
          have HG := hid (hL.add (s := z k % 8) (by omega) h0 (⟨#[]⟩ : ByteArray))
          clear hM hL h0
          go_wp2_with fail
          refine PN.out.mono ?_
          rintro e w5 ⟨rfl, hM2⟩
          have I2 := hid hM2
          have g1 : w5.cell? ⟨P + 1 + 1, z k % 8, none⟩ = _ := hM2.cells 1 (z k % 8) (by omega) (by show _ < 8; omega)
          have g2 : w5.cell? ⟨P + 1 + 1 + 1, z k % 8, none⟩ = _ := hM2.cells 2 (z k % 8) (by omega) (by show _ < 8; omega)
          have q1 : w5.frozen? ⟨P + 1 + 1, z k % 8, none⟩ = false := hM2.fro 1 (z k % 8) (by omega)
          have q2 : w5.frozen? ⟨P + 1 + 1 + 1, z k % 8, none⟩ = false := hM2.fro 2 (z k % 8) (by omega)
          have I3 : Hid (Mem w'' w''.heap.size P (R5 (P + 1) (P + 1 + 1) (P + 1 + 1 + 1) S V) (len5 ls lv) (val5 (setAt hd (z k % 8) (xs.length + 1)) (setAt la (z k % 8) (⟨#[]⟩ : ByteArray)) (setAt us (z k % 8) true) (fun j => (z j : Int)) f) (xs ++ [(⟨#[]⟩ : ByteArray)]) ((w5.setCell ⟨P + 1 + 1, z k % 8, none⟩ (.string (⟨#[]⟩ : ByteArray))).setCell ⟨P + 1 + 1 + 1, z k % 8, none⟩ (.bool true))) :=
            ((hM2.set (r := 1) (s := z k % 8) (by omega) (by show _ < 8; omega) (.string (⟨#[]⟩ : ByteArray))).set (r := 2) (s := z k % 8) (by omega) (by show _ < 8; omega) (.bool true)).congr (fun r t _ _ => val5_set hd la us _ f (z k % 8) xs.length (⟨#[]⟩ : ByteArray) r t)
          clear hM2
          go_wp2
          go_roundw
          case rel => exact ⟨k + 1, _, _, _, _, by omega, by go_num, I3.out, HG.out⟩
          case measure => simp [intOf]; omega
        ·
          have i0 : (0 : Int) ≤ (z k : Int) % 8 := by omega
          have i1 : (z k : Int) % 8 < 8 := by omega
          have i3 : (0 : Int) ≤ (k : Int) := by omega
          obtain ⟨i, hi⟩ : ∃ i, hd (z k % 8) = i + 1 := ⟨hd (z k % 8) - 1, by omega⟩
          obtain ⟨x, hx⟩ := hL.item (s := z k % 8) (by omega) hi
          have PN := hid (hM.put_old (by omega) (s := z k % 8) (i := i) (by show _ < 8; omega) hx (by show Value.int .i32 ((hd (z k % 8) : Nat) : Int) = _; rw [hi]; simp) (⟨#[]⟩ : ByteArray))
          have HG := hid (hL.set (s := z k % 8) (by omega) hi (⟨#[]⟩ : ByteArray))
          clear hM hL h0 hi hx
          go_wp2_with fail
          refine PN.out.mono ?_
          rintro e w5 ⟨rfl, hM2⟩
          have I2 := hid hM2
          have g1 : w5.cell? ⟨P + 1 + 1, z k % 8, none⟩ = _ := hM2.cells 1 (z k % 8) (by omega) (by show _ < 8; omega)
          have g2 : w5.cell? ⟨P + 1 + 1 + 1, z k % 8, none⟩ = _ := hM2.cells 2 (z k % 8) (by omega) (by show _ < 8; omega)
          have q1 : w5.frozen? ⟨P + 1 + 1, z k % 8, none⟩ = false := hM2.fro 1 (z k % 8) (by omega)
          have q2 : w5.frozen? ⟨P + 1 + 1 + 1, z k % 8, none⟩ = false := hM2.fro 2 (z k % 8) (by omega)
          have I3 : Hid (Mem w'' w''.heap.size P (R5 (P + 1) (P + 1 + 1) (P + 1 + 1 + 1) S V) (len5 ls lv) (val5 hd (setAt la (z k % 8) (⟨#[]⟩ : ByteArray)) (setAt us (z k % 8) true) (fun j => (z j : Int)) f) (xs.set i (⟨#[]⟩ : ByteArray)) ((w5.setCell ⟨P + 1 + 1, z k % 8, none⟩ (.string (⟨#[]⟩ : ByteArray))).setCell ⟨P + 1 + 1 + 1, z k % 8, none⟩ (.bool true))) :=
            ((hM2.set (r := 1) (s := z k % 8) (by omega) (by show _ < 8; omega) (.string (⟨#[]⟩ : ByteArray))).set (r := 2) (s := z k % 8) (by omega) (by show _ < 8; omega) (.bool true)).congr (fun r t _ _ => val5_set2 hd la us _ f (z k % 8) (⟨#[]⟩ : ByteArray) r t)
          clear hM2
          go_wp2
          go_roundw
          case rel => exact ⟨k + 1, _, _, _, _, by omega, by go_num, I3.out, HG.out⟩
          case measure => simp [intOf]; omega
    · have hkk : k = ls := by omega
      subst hkk
      clear hM hL
      go_wp2_with fail
      refine (I1.out.zlen (by omega)).mono ?_
      rintro e w5 ⟨rfl, hM2⟩
      have I2 := hid hM2
      clear hM2 I1 I0
      go_wp2
      go_loopw [13, 14] (fun c i wx => ∃ j : Nat, j ≤ 8 ∧ i = .int .i64 j ∧ c = .int .i64 (cntU us j : Int) ∧ Mem w'' w''.heap.size P (R5 (P + 1) (P + 1 + 1) (P + 1 + 1 + 1) S V) (len5 k lv) (val5 hd la us (fun j => (z j : Int)) f) xs wx) (fun _ i _ => 8 - (intOf i).toNat)
      case atStart => exact ⟨0, by omega, rfl, rfl, I2.out⟩
      case round =>
        obtain ⟨j, hj, rfl, rfl, hM3⟩ := hrel
        have J1 := hid hM3
        have hcj := cntU_le us j
        by_cases hlt2 : j < 8
        · have uc := hM3.cells 2 j (by omega) hlt2
          have hc := hM3.cells 0 j (by omega) hlt2
          have lc := hM3.cells 1 j (by omega) hlt2
          have i0 : (0 : Int) ≤ (j : Int) := by omega
          have i1 : (j : Int) < 8 := by omega
          simp only [R5, val5] at uc hc lc
          cases hu : us j with
          | false =>
            rw [hu] at uc
            rw [G1.out.unused j hlt2 hu] at hc
            have hcu : Hid (cntU us (j + 1) = cntU us j) := by show _ = _; simp only [cntU, hu]; simp
            clear hM3 hu
            go_wp2
            go_roundw
            case rel => exact ⟨j + 1, by omega, by go_num, by rw [hcu.out], J1.out⟩
            case measure => simp [intOf]; omega
          | true =>
            obtain ⟨i, hi, hx⟩ := G1.out.used j hlt2 hu
            have hil : i < xs.length := (List.getElem?_eq_some_iff.1 hx).1
            rw [hu] at uc
            rw [hi] at hc
            rw [show ((i + 1 : Nat) : Int) = (i : Int) + 1 from by omega] at hc
            have hcu : Hid (cntU us (j + 1) = cntU us j + 1) := by show _ = _; simp only [cntU, hu]; simp
            have CA := hid (hM3.at (by omega) i (la j) hx)
            have i2 : (0 : Int) ≤ (i : Int) := by omega
            have i3 : (i : Int) < (xs.length : Int) := by omega
            have i4 : (xs.length : Int) ≤ 8 := by omega
            have HI := hid hi
            have HU := hid hu
            clear hM3 hu hi hx
            go_wp2
            go_quiet ((go_at_call 13; exact Calls.quiet_of_same (CA.out _)))
            have J2 := hid (J1.out.still (kept_drewN _ nq))
            go_wp2
            go_loopw [15] (fun i wx => ∃ t : Nat, j + 1 ≤ t ∧ t ≤ 8 ∧ i = .int .i64 t ∧ Mem w'' w''.heap.size P (R5 (P + 1) (P + 1 + 1) (P + 1 + 1 + 1) S V) (len5 k lv) (val5 hd la us (fun j => (z j : Int)) f) xs wx) (fun i _ => 8 - (intOf i).toNat)
            case atStart => exact ⟨j + 1, by omega, by omega, by go_num, J2.out⟩
            case round =>
              obtain ⟨t, ht0, ht, rfl, hM4⟩ := hrel
              have L1 := hid hM4
              by_cases hlt3 : t < 8
              · have uc2 := hM4.cells 2 t (by omega) hlt3
                have hc2 := hM4.cells 0 t (by omega) hlt3
                have hc3 := hM4.cells 0 j (by omega) hlt2
                simp only [R5, val5] at uc2 hc2 hc3
                rw [HI.out, show ((i + 1 : Nat) : Int) = (i : Int) + 1 from by omega] at hc3
                have j0 : (0 : Int) ≤ (t : Int) := by omega
                have j1 : (t : Int) < 8 := by omega
                clear hM4
                cases hu2 : us t with
                | false =>
                  rw [hu2] at uc2
                  clear hu2
                  go_wp2
                  go_quiet (fail)
                  go_wp2
                  go_roundw
                  case rel => exact ⟨t + 1, by omega, by omega, by go_num, L1.out.still (kept_drewN _ _)⟩
                  case measure => simp [intOf]; omega
                | true =>
                  rw [hu2] at uc2
                  have hne : (((hd t : Nat) : Int) == (i : Int) + 1) = false := by
                    have : hd t ≠ i + 1 := fun e => by
                      have := G1.out.inj t j hlt3 hlt2 (by rw [e, HI.out]) (by omega)
                      omega
                    simp
                    omega
                  clear hu2
                  go_wp2
                  go_quiet (fail)
                  go_wp2
                  go_roundw
                  case rel => exact ⟨t + 1, by omega, by omega, by go_num, L1.out.still (kept_drewN _ _)⟩
                  case measure => simp [intOf]; omega
              · clear hM4
                go_wp2
                go_roundw
                case rel => exact ⟨j + 1, by omega, by go_num, by rw [hcu.out]; go_num, L1.out⟩
                case measure => simp [intOf]; omega
        · clear hM3
          have hj8 : j = 8 := by omega
          subst hj8
          have hcn := G1.out.cnt
          go_wp2
          go_ret
          exact ⟨rfl, J1.out.below⟩
end Go.Proofs.Qxb6003690a
