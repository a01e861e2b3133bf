/- The walk of FnBlocksPutKeepsHandles. -/
import Derived.Test.Qxb6003690aStOps
import Derived.Deep.RegionWith
namespace Go.Proofs.Qxb6003690a
open Go.RowKit Go.Deep
set_option linter.unusedVariables false

theorem inf4 : (Try.prog.info? 4).map (fun i => (i.zero, i.size, i.bytes)) = some (some (.bool false), 1, 1) := by kernel_rfl

set_option maxRecDepth 100000 in
set_option maxHeartbeats 6400000 in
theorem puts_any (a0 a1 : Option Addr) (lv cv ls cs : Nat) (f : Nat → ByteArray) (z : Nat → Nat) (w : World) (mv : lv ≤ maxLen) (ms : ls ≤ maxLen) (hz : ∀ j, z j ≤ 65535)
    (n0 : a0 = none → cv = 0) (n1 : a1 = none → cs = 0) (hv : Strs w a0 lv f) (hs : Ints .u16 w a1 ls (fun j => (z j : Int))) :
    Calls Try.prog 6 #[.slice a0 lv cv, .slice a1 ls cs] w fun e w' => e = .returned (.bool true) ∧ Below w.heap.size w w' := by
  have HV := hid hv
  have HS := hid hs
  have HZ := hid hz
  have N0 := hid n0
  have N1 := hid n1
  clear hv hs hz n0 n1
  go_enter Try.func6, Try.ntmps6
  go_wp2_with fail
  refine (bytes21 _ _ _ f _ _ _ _ HV.out mv ms).mono ?_
  rintro e w' ⟨t, rfl, rfl, _⟩
  cases t
  · go_wp2
    go_ret
    exact ⟨rfl, Below.refl _ _⟩
  go_wp2_with fail
  refine (fit22 _ _ _ f _ _ _ _ HV.out mv ms).mono ?_
  rintro e w'' ⟨t, rfl, rfl, ht⟩
  cases t
  · go_wp2
    go_ret
    exact ⟨rfl, Below.refl _ _⟩
  obtain ⟨hl1, hl2⟩ := ht rfl
  clear ht
  go_wp2_with fail
  refine (clone19_all a0 lv cv f _ (by omega) HV.out N0.out).mono ?_
  rintro e w1 ⟨av, cv', rfl, hc1⟩
  have C1 := hid hc1
  have S1 := hid (HS.out.later hc1.1)
  clear hc1
  go_wp2_with fail
  refine (clone23_all a1 ls cs (fun j => (z j : Int)) _ (by omega) S1.out N1.out).mono ?_
  rintro e w2 ⟨ax, cs', rfl, hc2⟩
  have C2 := hid hc2
  clear hc2
  -- the count of puts
  obtain ⟨n, hn1, hn2, HN⟩ : ∃ n, n ≤ lv ∧ n ≤ ls ∧ Hid (n = min lv ls) := ⟨min lv ls, by omega, by omega, rfl⟩
  obtain ⟨V, S, hVS, hst0⟩ := St.begin (n := n) hn1 hn2 C1.out C2.out
  have I0 := hid hst0
  have HVS := hid hVS
  have hmk := mk2048
  generalize hP : w2.heap.size = P at I0
  have HP := hid hP
  have HW : Hid (((ls : Int) < (lv : Int) ∧ decide (ls < lv) = true ∧ n = ls) ∨ ((lv : Int) ≤ (ls : Int) ∧ decide (ls < lv) = false ∧ n = lv)) := by
    have := HN.out
    by_cases h : (ls : Int) < (lv : Int)
    · exact .inl ⟨h, by simp; omega, by omega⟩
    · exact .inr ⟨by omega, by simp; omega, by omega⟩
  clear C1 C2 S1 HS HV HN hVS hst0 N0 N1
  rcases HW with ⟨hlt, hdc, hnn⟩ | ⟨hlt, hdc, hnn⟩
  all_goals
    subst hnn
    go_wp2
    clear hmk hP hdc
    go_loopw [8, 9] (fun m i wr => ∃ (k : Nat) (xs : List ByteArray) (hd : Nat → Nat), k ≤ n ∧ i = .int .i64 k ∧ xs.length ≤ k ∧ St w'' w''.heap.size P V S (P + 1) n f (fun j => (z j : Int)) m xs xs hd wr) (fun _ i _ => n - (intOf i).toNat)
    case atStart => exact ⟨0, [], fun _ => 0, Nat.zero_le _, rfl, by simp, I0.out⟩
    case round =>
      obtain ⟨k, xs, hd, hk, rfl, hx, hSt⟩ := hrel
      have I1 := hid hSt
      by_cases hkn : k < n
      · obtain ⟨ev, es⟩ := HVS.out (by omega)
        subst ev
        subst es
        have hcv := hSt.vals k hkn
        have hcs := hSt.slots k hkn
        have hzk := HZ.out k
        obtain ⟨sn, hsn, HSN⟩ : ∃ sn, sn < 2048 ∧ Hid (z k % 2048 = sn) := ⟨z k % 2048, by omega, rfl⟩
        have hch := hSt.hcell (z k % 2048) (by omega)
        obtain ⟨ao, cap, rfl⟩ := hSt.form
        by_cases h0 : hd (z k % 2048) = 0
        · rw [h0] at hch
          have PN := hid ((hSt.still (Kept.refl _ wr).drew).put_new (by omega) (s := z k % 2048) (by omega) h0 (f k))
          clear hSt h0
          have i0 : (0 : Int) ≤ (z k : Int) % 2048 := by omega
          have i1 : (z k : Int) % 2048 < 2048 := by omega
          have i2 := Int.ofNat_lt.mpr (Nat.lt_of_lt_of_le hkn hn1)
          have i2' := Int.ofNat_lt.mpr (Nat.lt_of_lt_of_le hkn hn2)
          have i3 : (0 : Int) ≤ (k : Int) := by omega
          go_wp2
          go_region_with (go_at_call 24; refine (PN.out).mono ?_; rintro e w5 ⟨rfl, hS2⟩)
          have I2 := hid hS2
          have hcv2 := hS2.vals k hkn
          have hch2 : w5.cell? ⟨P + 1, z k % 2048, none⟩ = some (.int .i32 ((xs.length : Int) + 1)) := by have := hS2.hcell (z k % 2048) (by omega); simpa [upd] using this
          have hB2 := hS2.hB
          have hx' : (xs.length : Int) ≤ 65536 := by omega
          clear hS2 hcv hcs hch PN
          obtain ⟨i9, hi9, hz0, hz1, hz2⟩ := info_parts inf9
          go_wp2_with (at_builtin; refine wpList_append_lies _ rfl _ _ _ rfl w''.heap.size 9 i9 _ 1 16 Try.underlying22 hi9 hz0 hz1 hz2 rfl (by omega) (.slice ao xs.length cap) xs.length (strV xs) rfl (I2.out.model.alloc _) ⟨w5.heap.size, 0, none⟩ 1 1 [.string (f k)] rfl rfl (World.news_of_block (cs := #[.string (f k)]) (t := 9) (fr := (0, 0)) (heap_alloc_new w5 _)) (by simp [Value.oneCell']) (by omega) (by unfold maxLen; omega) (by omega) (by simp; omega) (w5.heap.size + 1) (by simp) ?_; intro g cap' w6 hown6 hgrow6 hat6 hlt6)
          have I3 := hid (I2.out.grow hown6 hgrow6 hat6)
          clear hown6 hgrow6 hat6 hlt6
          go_wp2_with fail
          refine (I3.out.zlen (by simp; omega)).mono ?_
          rintro e w7 ⟨rfl, hS7⟩
          have I4 := hid hS7
          clear hS7
          have el : ((xs ++ [f k]).length : Int) = (xs.length : Int) + 1 := by simp
          rw [el]
          go_wp2
          go_roundw
          case rel => first | exact ⟨k + 1, xs ++ [f k], _, by omega, by go_num, by simp; omega, I4.out⟩ | ((repeat apply Exists.intro); exact ⟨⟨k + 1, xs ++ [f k], _, by omega, by go_num, by simp; omega, I4.out⟩, rfl⟩)
          case measure => simp [intOf]; omega
        · obtain ⟨i, hi⟩ : ∃ i, hd (z k % 2048) = i + 1 := ⟨hd (z k % 2048) - 1, by omega⟩
          have hle := hSt.le (z k % 2048) (by omega)
          rw [hi] at hch hle
          obtain ⟨G, cap2, hv2⟩ := hSt.form_pos (by omega)
          injection hv2 with e1 e2 e3
          subst e1
          subst e3
          have PO := hid ((hSt.still (Kept.refl _ wr).drew).put_old (by omega) (s := z k % 2048) (by omega) hi (f k))
          have HI := hid hi
          clear hSt h0 hi e2
          have i0 : (0 : Int) ≤ (z k : Int) % 2048 := by omega
          have i1 : (z k : Int) % 2048 < 2048 := by omega
          have i2 := Int.ofNat_lt.mpr (Nat.lt_of_lt_of_le hkn hn1)
          have i2' := Int.ofNat_lt.mpr (Nat.lt_of_lt_of_le hkn hn2)
          have i3 : (0 : Int) ≤ (k : Int) := by omega
          have hch' : wr.cell? ⟨P + 1, z k % 2048, none⟩ = some (.int .i32 ((i : Int) + 1)) := by simpa using hch
          have hz1 : (((i : Int) + 1) == 0) = false := by simp; omega
          have hi' : (i : Int) ≤ 65536 := by omega
          clear hch
          go_wp2
          go_region_with (go_at_call 24; refine (PO.out).mono ?_; rintro e w5 ⟨rfl, hS2⟩)
          have I2 := hid hS2
          have hcv2 := hS2.vals k hkn
          have hch2 : w5.cell? ⟨P + 1, z k % 2048, none⟩ = some (.int .i32 ((i : Int) + 1)) := by have := hS2.hcell (z k % 2048) (by omega); rw [HI.out] at this; simpa using this
          obtain ⟨hm1, hm2⟩ := hS2.modelCell (i := i) (s := xs[i]) (List.getElem?_eq_getElem (by omega))
          have i4 : (i : Int) < (xs.length : Int) := by omega
          have i5 : (0 : Int) ≤ (i : Int) := by omega
          clear hS2 hcv hcs hch' PO
          go_wp2_with fail
          have I3 := hid (I2.out.setModel (i := i) (f k))
          refine (I3.out.zlen (by simp; omega)).mono ?_
          rintro e w7 ⟨rfl, hS7⟩
          have I4 := hid hS7
          clear hS7
          rw [List.length_set]
          go_wp2
          go_roundw
          case rel => first | exact ⟨k + 1, xs.set i (f k), _, by omega, by go_num, by simp; omega, I4.out⟩ | ((repeat apply Exists.intro); exact ⟨⟨k + 1, xs.set i (f k), _, by omega, by go_num, by simp; omega, I4.out⟩, rfl⟩)
          case measure => simp [intOf]; omega
      · have hkk : k = n := by omega
        subst hkk
        obtain ⟨ao, cap, rfl⟩ := hSt.form
        have hmo := fun w => run_make_row' (P := Try.prog) 49 4 (.bool false) 1 Try.underlying49 inf4 rfl .i64 .i64 xs.length (by omega) (by omega) w
        clear hSt
        go_wp2
        clear hmo
        have I5 := hid (Own.start I1.out)
        generalize hO : wr.heap.size = O at I5 ⊢
        have HO := hid hO
        clear hO I1
        have hxb : (xs.length : Int) ≤ 65536 := by omega
        go_loopw [13] (fun i wx => ∃ s : Nat, s ≤ 2048 ∧ i = .int .i64 s ∧ Own w'' w''.heap.size P O (P + 1) f (fun j => (z j : Int)) (.slice ao xs.length cap) xs hd s wx) (fun i _ => 2048 - (intOf i).toNat)
        case atStart => exact ⟨0, by omega, rfl, I5.out⟩
        case round =>
          obtain ⟨s, hs, rfl, hOw⟩ := hrel
          have J1 := hid hOw
          by_cases hlt2 : s < 2048
          · have hch := hOw.1.hcell s hlt2
            have i0 : (0 : Int) ≤ (s : Int) := by omega
            have i1 : (s : Int) < 2048 := by omega
            by_cases h0 : hd s = 0
            · rw [h0] at hch
              clear hOw h0
              go_wp2
              go_roundw
              case rel => exact ⟨s + 1, by omega, by go_num, J1.out.skip⟩
              case measure => simp [intOf]; omega
            · obtain ⟨j, hj⟩ : ∃ j, hd s = j + 1 := ⟨hd s - 1, by omega⟩
              obtain ⟨hjl, hjc, hjf⟩ := hOw.free hlt2 hj
              rw [hj] at hch
              rw [show ((j + 1 : Nat) : Int) = (j : Int) + 1 from by omega] at hch
              have J2 := hid (hOw.step hj hjl)
              have hz1 : (((j : Int) + 1) == 0) = false := by simp; omega
              have i2 : (0 : Int) ≤ (j : Int) := by omega
              have i3 : (j : Int) < (xs.length : Int) := by omega
              have i4 : ¬ ((xs.length : Int) ≤ (j : Int)) := by omega
              clear hOw h0 hj
              go_wp2
              go_roundw
              case rel => exact ⟨s + 1, by omega, by go_num, J2.out⟩
              case measure => simp [intOf]; omega
          · clear hOw
            go_wp2
            go_loopw [15] (fun i wx => ∃ t : Nat, t ≤ xs.length ∧ i = .int .i64 t ∧ St w'' w''.heap.size P O O (P + 1) 0 f (fun j => (z j : Int)) (.slice ao xs.length cap) xs xs hd wx) (fun i _ => xs.length - (intOf i).toNat)
            case atStart => exact ⟨0, Nat.zero_le _, rfl, J1.out.1⟩
            case round =>
              obtain ⟨t, ht, rfl, hS3⟩ := hrel
              have L1 := hid hS3
              by_cases hlt3 : t < xs.length
              · obtain ⟨G, cap2, hv2⟩ := hS3.form_pos (by omega)
                injection hv2 with e1 e2 e3
                subst e1
                subst e3
                clear e2
                obtain ⟨hm1, _⟩ := hS3.modelCell (i := t) (s := xs[t]) (List.getElem?_eq_getElem hlt3)
                obtain ⟨g, hgc, hcall⟩ := hS3.at (by omega) t xs[t] (List.getElem?_eq_getElem hlt3)
                have CA := hid (zat2_of hcall)
                have j0 : (0 : Int) ≤ (t : Int) := by omega
                have j1 : (t : Int) < (xs.length : Int) := by omega
                clear hS3 hcall
                go_wp2
                go_quiet ((go_at_call 20; exact Calls.quiet_of_same (CA.out _)))
                go_wp2
                go_roundw
                case rel => exact ⟨t + 1, by omega, by go_num, L1.out.still (kept_drewN _ _)⟩
                case measure => simp [intOf]; omega
              · clear hS3
                go_wp2
                go_ret
                exact ⟨rfl, L1.out.below⟩
end Go.Proofs.Qxb6003690a
