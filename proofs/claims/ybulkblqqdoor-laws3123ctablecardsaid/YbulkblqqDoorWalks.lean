/-
  THE WALKS of the two laws of seat b3123aD: '(*ring).limit' by two contracts (the live interval; an older one), the two helpers by theirs, then the laws. A look-up in the listed map is a hypothesis over every later world.
-/
import Derived.Test.YbulkblqqDoorRows
import Derived.WalkKit
import Derived.Below
import Derived.Deep.QuietTactic
import Derived.BigQuiet
import Derived.WalkSpells
import Derived.OpenShut
namespace Go.Proofs.YbulkblqqDoor
open Go.RowKit

/-- What the listed map holds, an absent key: nought. -/
def kept (k : Int) : Int := if k = 60 then 50000 else if k = 300 then 5000 else 0

/-- What the walks are told of the map: the variable's cell, and every look-up, in every later world. -/
def Looks (w : World) (bm : Nat) : Prop :=
  w.cell? ⟨0, 0, none⟩ = some (.map (some bm)) ∧ 0 < w.heap.size ∧
    ∀ wr, Below w.heap.size w wr → ∀ k : Int, (Lit.int .i64 k).wf = true → (Instr.lookup 32 (.map (some bm)) (.int .i64 k) false).run Ybad.prog wr = .ok (.int .i64 (kept k)) wr

theorem limit_live (b : Nat) (i l : Int) (w : World) (heq : (i == l) = true) :
    Calls Ybad.prog 6 #[.pointer (some ⟨b, 0, none⟩), .int .i64 i, .int .i64 l] w fun e w' => e = .returned (.int .i64 100000) ∧ w' = w := by
  go_enter Ybad.func6, Ybad.ntmps6
  go_wp2
  go_ret
  exact ⟨rfl, rfl⟩

theorem limit_kept (b bm : Nat) (wd i l : Int) (w : World) (hne : (i == l) = false) (hr : w.cell? ⟨b, 0, none⟩ = some (.int .i64 wd)) (hc : w.cell? ⟨0, 0, none⟩ = some (.map (some bm)))
    (hl : ∀ n, (Instr.lookup 32 (.map (some bm)) (.int .i64 wd) false).run Ybad.prog (w.drewN n) = .ok (.int .i64 (kept wd)) (w.drewN n)) :
    Calls Ybad.prog 6 #[.pointer (some ⟨b, 0, none⟩), .int .i64 i, .int .i64 l] w fun e w' => e = .returned (.int .i64 (kept wd)) ∧ ∃ n, w' = w.drewN n := by
  go_enter Ybad.func6, Ybad.ntmps6
  go_wp2
  go_quiet (fail)
  go_wp2
  go_ret
  exact ⟨rfl, _, rfl⟩

/-- Whatever width it picks fits its kind. -/
theorem width_any (s r : Int) (w : World) (hs0 : 0 ≤ s) (hs1 : s ≤ 255) (hr : (Lit.int .i64 r).wf = true) :
    Calls Ybad.prog 5 #[.int .u8 s, .int .i64 r] w fun e w' => (∃ wd : Int, e = .returned (.int .i64 wd) ∧ (Lit.int .i64 wd).wf = true) ∧ w' = w := by
  by_cases c0 : s % 3 = 0
  · have d0 : (s % 3 == 0) = true := by simpa using c0
    clear c0
    go_enter Ybad.func5, Ybad.ntmps5
    go_wp2
    go_ret
    exact ⟨⟨_, rfl, by decide⟩, rfl⟩
  · have d0 : (s % 3 == 0) = false := by simpa using c0
    clear c0
    by_cases c1 : s % 3 = 1
    · have d1 : (s % 3 == 1) = true := by simpa using c1
      clear c1
      go_enter Ybad.func5, Ybad.ntmps5
      go_wp2
      go_ret
      exact ⟨⟨_, rfl, by decide⟩, rfl⟩
    · have d1 : (s % 3 == 1) = false := by simpa using c1
      clear c1
      go_enter Ybad.func5, Ybad.ntmps5
      go_wp2
      go_ret
      exact ⟨⟨_, rfl, hr⟩, rfl⟩

theorem model_live (wd i l : Int) (w : World) (heq : (i == l) = true) :
    Calls Ybad.prog 7 #[.int .i64 wd, .int .i64 i, .int .i64 l] w fun e w' => e = .returned (.int .i64 100000) ∧ w' = w := by
  go_enter Ybad.func7, Ybad.ntmps7
  go_wp2
  go_ret
  exact ⟨rfl, rfl⟩

theorem model_kept (wd i l : Int) (w : World) (hne : (i == l) = false) :
    Calls Ybad.prog 7 #[.int .i64 wd, .int .i64 i, .int .i64 l] w fun e w' => e = .returned (.int .i64 (kept wd)) ∧ w' = w := by
  by_cases c0 : wd = 60
  · subst c0
    go_enter Ybad.func7, Ybad.ntmps7
    go_wp2
    go_ret
    exact ⟨rfl, rfl⟩
  · by_cases c1 : wd = 300
    · subst c1
      go_enter Ybad.func7, Ybad.ntmps7
      go_wp2
      go_ret
      exact ⟨rfl, rfl⟩
    · have hk : kept wd = 0 := by simp [kept, c0, c1]
      have d0 : (wd == 60) = false := by simpa using c0
      have d1 : (wd == 300) = false := by simpa using c1
      rw [hk]
      clear hk c0 c1
      go_enter Ybad.func7, Ybad.ntmps7
      go_wp2
      go_ret
      exact ⟨rfl, rfl⟩

/-- The block that the law lays for its ring. -/
theorem Looks.here {w : World} {bm : Nat} (h : Looks w bm) (o : Obj) : (w.alloc o).cell? ⟨0, 0, none⟩ = some (.map (some bm)) := by
  rw [((Below.refl w.heap.size w).alloc (Nat.le_refl _) o).cell (p := ⟨0, 0, none⟩) h.2.1]
  exact h.1

theorem Looks.look {w : World} {bm : Nat} (h : Looks w bm) (o : Obj) (wd : Int) (hw : (Lit.int .i64 wd).wf = true) (n : Nat) :
    (Instr.lookup 32 (.map (some bm)) (.int .i64 wd) false).run Ybad.prog ((w.alloc o).drewN n) = .ok (.int .i64 (kept wd)) ((w.alloc o).drewN n) :=
  h.2.2 _ (by have hb := (Below.refl w.heap.size w).alloc (Nat.le_refl _) o; exact ⟨hb.os, hb.tape, hb.output, hb.size, hb.block⟩) wd hw

theorem Looks.look2 {w : World} {bm : Nat} (h : Looks w bm) (o : Obj) (wd : Int) (hw : (Lit.int .i64 wd).wf = true) (n m : Nat) :
    (Instr.lookup 32 (.map (some bm)) (.int .i64 wd) false).run Ybad.prog (((w.alloc o).drewN n).drewN m) = .ok (.int .i64 (kept wd)) (((w.alloc o).drewN n).drewN m) :=
  h.2.2 _ (by have hb := (Below.refl w.heap.size w).alloc (Nat.le_refl _) o; exact ⟨hb.os, hb.tape, hb.output, hb.size, hb.block⟩) wd hw

set_option maxHeartbeats 400000 in
theorem table_any (a0 a1 a2 a3 : Int) (w : World) (bm : Nat) (h0 : 0 ≤ a0) (h0' : a0 ≤ 255) (w1 : (Lit.int .i64 a1).wf = true) (H : Hid (Looks w bm)) :
    Calls Ybad.prog 3 #[.int .u8 a0, .int .i64 a1, .int .i64 a2, .int .i8 a3] w fun e w' => e = .returned (.bool true) ∧ Below w.heap.size w w' := by
  have hnil := fun (w : World) (a : Option Addr) (n c n' c' : Nat) => run_neq_slice_nil_any (P := Ybad.prog) w 25 _ a n c n' c' Ybad.underlying25
  go_enter Ybad.func3, Ybad.ntmps3
  go_wp2_with fail
  refine (width_any a0 a1 _ h0 h0' w1).mono ?_
  rintro e w1 ⟨⟨wd, rfl, hwd⟩, rfl⟩
  go_wp2_with fail
  generalize wrap64 (a2 + wrap64 a3) = l
  by_cases heq : a2 = l
  · have hq : (a2 == l) = true := by simpa using heq
    clear heq
    refine (limit_live _ _ _ _ hq).mono ?_
    rintro e w2 ⟨rfl, rfl⟩
    go_wp2_with fail
    refine (model_live _ _ _ _ hq).mono ?_
    rintro e w3 ⟨rfl, rfl⟩
    go_wp2
    go_ret
    exact ⟨rfl, (Below.refl _ _).alloc (Nat.le_refl _) _⟩
  · have hq : (a2 == l) = false := by simpa using heq
    clear heq
    refine (limit_kept w1.heap.size bm wd _ _ _ hq (by simp) (by exact H.out.here _) (by exact H.out.look _ wd hwd)).mono ?_
    rintro e w2 ⟨rfl, n, rfl⟩
    go_wp2_with fail
    refine (model_kept _ _ _ _ hq).mono ?_
    rintro e w3 ⟨rfl, rfl⟩
    go_wp2
    go_ret
    have hb := (Below.refl w1.heap.size w1).alloc (Nat.le_refl _) (.cells #[.int .i64 wd, .slice none 0 0] 27)
    exact ⟨rfl, ⟨hb.os, hb.tape, hb.output, hb.size, hb.block⟩⟩

set_option maxHeartbeats 400000 in
theorem live_any (a0 a1 a2 : Int) (w : World) (bm : Nat) (h0 : 0 ≤ a0) (h0' : a0 ≤ 255) (H : Hid (Looks w bm)) :
    Calls Ybad.prog 4 #[.int .u8 a0, .int .i64 a1, .int .i64 a2] w fun e w' => e = .returned (.bool true) ∧ Below w.heap.size w w' := by
  have hself : (a1 == a1) = true := by simp
  have k60 : kept 60 = 50000 := rfl
  have k300 : kept 300 = 5000 := rfl
  by_cases hs : a0 % 2 = 1
  · have ds : (a0 % 2 == 1) = true := by simpa using hs
    clear hs
    go_enter Ybad.func4, Ybad.ntmps4
    go_wp2_with fail
    refine (limit_live _ _ _ _ hself).mono ?_
    rintro e w2 ⟨rfl, rfl⟩
    by_cases heq : a1 = a2
    · have hq : (a1 == a2) = true := by simpa using heq
      clear heq
      go_wp2
      go_ret
      exact ⟨rfl, (Below.refl _ _).alloc (Nat.le_refl _) _⟩
    · have hq : (a1 == a2) = false := by simpa using heq
      have hq' : (a2 == a1) = false := by simpa using (fun h => heq h.symm)
      clear heq
      go_wp2_with fail
      refine (limit_kept w.heap.size bm 300 _ _ _ hq (by simp) (by exact H.out.here _) (by exact H.out.look _ 300 (by decide))).mono ?_
      rintro e w2 ⟨rfl, n, rfl⟩
      go_wp2_with fail
      refine (limit_kept w.heap.size bm 300 _ _ _ hq' (by simp) (by exact H.out.here _) (by exact H.out.look2 _ 300 (by decide) _)).mono ?_
      rintro e w2 ⟨rfl, m, rfl⟩
      go_wp2
      go_ret
      have hb := (Below.refl w.heap.size w).alloc (Nat.le_refl _) (.cells #[.int .i64 300, .slice none 0 0] 27)
      exact ⟨rfl, ⟨hb.os, hb.tape, hb.output, hb.size, hb.block⟩⟩
  · have ds : (a0 % 2 == 1) = false := by simpa using hs
    clear hs
    go_enter Ybad.func4, Ybad.ntmps4
    go_wp2_with fail
    refine (limit_live _ _ _ _ hself).mono ?_
    rintro e w2 ⟨rfl, rfl⟩
    by_cases heq : a1 = a2
    · have hq : (a1 == a2) = true := by simpa using heq
      clear heq
      go_wp2
      go_ret
      exact ⟨rfl, (Below.refl _ _).alloc (Nat.le_refl _) _⟩
    · have hq : (a1 == a2) = false := by simpa using heq
      have hq' : (a2 == a1) = false := by simpa using (fun h => heq h.symm)
      clear heq
      go_wp2_with fail
      refine (limit_kept w.heap.size bm 60 _ _ _ hq (by simp) (by exact H.out.here _) (by exact H.out.look _ 60 (by decide))).mono ?_
      rintro e w2 ⟨rfl, n, rfl⟩
      go_wp2_with fail
      refine (limit_kept w.heap.size bm 60 _ _ _ hq' (by simp) (by exact H.out.here _) (by exact H.out.look2 _ 60 (by decide) _)).mono ?_
      rintro e w2 ⟨rfl, m, rfl⟩
      go_wp2
      go_ret
      have hb := (Below.refl w.heap.size w).alloc (Nat.le_refl _) (.cells #[.int .i64 60, .slice none 0 0] 27)
      exact ⟨rfl, ⟨hb.os, hb.tape, hb.output, hb.size, hb.block⟩⟩

end Go.Proofs.YbulkblqqDoor
