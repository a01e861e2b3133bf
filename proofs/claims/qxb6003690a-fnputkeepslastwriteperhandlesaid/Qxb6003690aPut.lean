/- The walk of put, and of its shims. -/
import Derived.Test.Qxb6003690aOps
namespace Go.Proofs.Qxb6003690a
open Go.RowKit
set_option linter.unusedVariables false

theorem hid {p : Prop} (h : p) : Hid p := h

set_option maxHeartbeats 400000 in
theorem Blks.put_new {w : World} {B P : Nat} {F : Nat → Prop} {xs : List ByteArray} (h : Blks w B P F xs) (hn : xs.length ≤ 900000) (item : ByteArray) (b o : Nat) (hc : w.cell? ⟨b, o, none⟩ = some (.int .i32 0)) (hf : w.frozen? ⟨b, o, none⟩ = false) (hF : ¬ F b) :
    Calls Try.prog 28 #[.pointer (some ⟨P, 0, none⟩), .pointer (some ⟨b, o, none⟩), .string item] w fun e w' => e = .returned (.tuple #[]) ∧ ∃ w1, Added w B P F (xs ++ [item]) w1 ∧ w' = w1.setCell ⟨b, o, none⟩ (.int .i32 ((xs.length : Int) + 1)) := by
  have H : Hid (Blks w B P F xs) := h
  have HF : Hid (¬ F b) := hF
  have lb := World.block_lt_of_cell? w _ hc
  clear h hF
  go_enter Try.func28, Try.ntmps28
  go_wp2_with fail
  refine (Blks.add H.out hn item).mono ?_
  rintro e w1 ⟨rfl, ha⟩
  have A : Hid _ := ha
  obtain ⟨F', hb', hk, hF'⟩ := ha
  have c1 : w1.cell? ⟨b, o, none⟩ = some (.int .i32 0) := (hk.cell (p := ⟨b, o, none⟩) lb HF.out).trans hc
  have c2 : w1.frozen? ⟨b, o, none⟩ = false := (hk.frozen (p := ⟨b, o, none⟩) lb HF.out).trans hf
  clear hb' hk hF' hc hf
  have hn' : (xs.length : Int) ≤ 900000 := by omega
  go_wp2
  refine bodyPost_ret (results_none rfl _ _ _) rfl ?_
  exact ⟨rfl, w1, A.out, rfl⟩

set_option maxHeartbeats 400000 in
theorem Blks.put_old {w : World} {B P : Nat} {F : Nat → Prop} {xs : List ByteArray} (h : Blks w B P F xs) (hn : xs.length ≤ 900000) (item : ByteArray) (b o i : Nat) (s : ByteArray) (hi : xs[i]? = some s) (hc : w.cell? ⟨b, o, none⟩ = some (.int .i32 ((i : Int) + 1))) :
    Calls Try.prog 28 #[.pointer (some ⟨P, 0, none⟩), .pointer (some ⟨b, o, none⟩), .string item] w fun e w' => e = .returned (.tuple #[]) ∧ ∃ g j, F g ∧ Blks w' B P F (xs.set i item) ∧ w' = w.setCell ⟨g, j, none⟩ (.string item) := by
  obtain ⟨g, hg, c1, c2, hst, hcall⟩ := h.at (by omega) i s hi
  have hl : i < xs.length := (List.getElem?_eq_some_iff.1 hi).1
  have HC := hid (hcall 0)
  have HS := hid (hst item)
  have hi' : (i : Int) ≤ 900000 := by omega
  have hz : (((i : Int) + 1) == 0) = false := by simp; omega
  clear hcall hst h hi
  go_enter Try.func28, Try.ntmps28
  go_wp2_with fail
  refine (HC.out).mono ?_
  rintro e w1 ⟨rfl, hw⟩
  change w1 = w at hw
  subst hw
  go_wp2
  go_end0
  exact ⟨rfl, g, i % 1024, hg, HS.out, rfl⟩

/-- 'ZZPutString' -/
theorem put24 {w : World} {P b o : Nat} {item : ByteArray} {Q : Ending → World → Prop} (h : Calls Try.prog 28 #[.pointer (some ⟨P, 0, none⟩), .pointer (some ⟨b, o, none⟩), .string item] w fun e w' => e = .returned (.tuple #[]) ∧ Q e w') :
    Calls Try.prog 24 #[.pointer (some ⟨P, 0, none⟩), .pointer (some ⟨b, o, none⟩), .string item] w fun e w' => e = .returned (.tuple #[]) ∧ Q e w' := by
  have H := hid h
  clear h
  go_enter Try.func24, Try.ntmps24
  go_wp2_with fail
  refine H.out.mono ?_
  rintro e w1 ⟨rfl, hq⟩
  have HQ := hid hq
  clear hq
  go_wp2
  go_end0
  exact ⟨rfl, HQ.out⟩
/-- 'ZZPut' -/
theorem put16 {w : World} {P b o : Nat} {item : ByteArray} {Q : Ending → World → Prop} (h : Calls Try.prog 28 #[.pointer (some ⟨P, 0, none⟩), .pointer (some ⟨b, o, none⟩), .string item] w fun e w' => e = .returned (.tuple #[]) ∧ Q e w') :
    Calls Try.prog 16 #[.pointer (some ⟨P, 0, none⟩), .pointer (some ⟨b, o, none⟩), .string item] w fun e w' => e = .returned (.tuple #[]) ∧ Q e w' := by
  have H := hid h
  clear h
  go_enter Try.func16, Try.ntmps16
  go_wp2_with fail
  refine H.out.mono ?_
  rintro e w1 ⟨rfl, hq⟩
  have HQ := hid hq
  clear hq
  go_wp2
  go_end0
  exact ⟨rfl, HQ.out⟩
end Go.Proofs.Qxb6003690a
