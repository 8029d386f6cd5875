/-
  THE WALK of 'doi.LawS3122BPlain' over its callees' contracts.
-/
import Derived.Test.YbulkblqcFmtPlain
import Derived.Laws.MakeOwn
namespace Go.Proofs.YbulkblqcFmt
open Go.RowKit

/-- The bytes that the law writes. -/
def by8 (zs : List Int) (n : Nat) : List UInt8 := (List.range n).map fun j => UInt8.ofNat (pr (zs.getD j 0)).toNat

theorem by8_length (zs : List Int) (n : Nat) : (by8 zs n).length = n := by simp [by8]

theorem by8_at (zs : List Int) (n j : Nat) (hj : j < (by8 zs n).length) : (((by8 zs n)[j]).toNat : Int) = pr (zs.getD j 0) := by
  have hb := pr_bounds (zs.getD j 0)
  have e : (by8 zs n)[j] = UInt8.ofNat (pr (zs.getD j 0)).toNat := by simp [by8]
  rw [e, UInt8.toNat_ofNat']
  omega

theorem name_of (g cap n : Nat) (l : List UInt8) (w : World) (hn : l.length = n) (hg : g < w.heap.size) (hl : n ≤ 4096)
    (hc : ∀ j (hj : j < l.length), w.cell? ⟨g, j, none⟩ = some (.int .u8 (l[j].toNat : Int)))
    (hp : ∀ j (hj : j < l.length), 33 ≤ (l[j].toNat : Int) ∧ (l[j].toNat : Int) ≤ 126 ∧ (l[j].toNat : Int) ≠ 92) :
    Calls Ybaf.prog 12 #[.slice (some ⟨g, 0, none⟩) n cap] w fun e w' => (∃ s : ByteArray, e = .returned (.string s) ∧ s.size = n ∧ ∀ j (hj : j < s.size) (hj' : j < l.length), (s[j].toNat : Int) = (l[j].toNat : Int)) ∧ Below w.heap.size w w' := by
  subst hn
  refine (name_any g cap l w hg hl hc hp).mono ?_
  rintro e w' ⟨rfl, hb⟩
  exact ⟨⟨⟨l.toArray⟩, rfl, by simp [ByteArray.size], fun j _ _ => rfl⟩, hb⟩

/-- The row that the law fills, k bytes written. -/
def Filled (zs : List Int) (N n k : Nat) (wr : World) : Prop :=
  ∃ C : Array Value, wr.heap[N]? = some (.cells C 5 (0, 0)) ∧ C.size = n ∧ ∀ j, j < k → C[j]? = some (.int .u8 (pr (zs.getD j 0)))

theorem Filled.cell {zs : List Int} {N n k : Nat} {wr : World} (h : Filled zs N n k wr) (j : Nat) (hj : j < k) : wr.cell? ⟨N, j, none⟩ = some (.int .u8 (pr (zs.getD j 0))) := by
  obtain ⟨C, hC, _, ha⟩ := h
  rw [Lib.cell_of_heap hC, ha j hj]

theorem Filled.next {zs : List Int} {N n k : Nat} {wr : World} (h : Filled zs N n k wr) (hk : k < n) :
    (∃ v, wr.cell? ⟨N, k, none⟩ = some v) ∧ wr.frozen? ⟨N, k, none⟩ = false ∧ Filled zs N n (k + 1) (wr.setCell ⟨N, k, none⟩ (.int .u8 (pr (zs.getD k 0)))) := by
  obtain ⟨C, hC, hs, ha⟩ := h
  refine ⟨⟨C[k]'(by omega), by rw [Lib.cell_of_heap hC, Array.getElem?_eq_getElem]⟩, Lib.frozen_of_heap hC k, C.setIfInBounds k (.int .u8 (pr (zs.getD k 0))), ?_, by simpa using hs, ?_⟩
  · simp [World.setCell, Array.getElem?_modify, hC]
  · intro j hj
    by_cases e : j = k
    · subst e
      simp [hs, hk]
    · rw [Array.getElem?_setIfInBounds_ne (by omega)]
      exact ha j (by omega)

theorem run_make8 (n : Nat) (h : n ≤ 4096) (w : World) :
    (Instr.makeSlice 22 (.int .i64 (n : Int)) (.int .i64 (n : Int))).run Ybaf.prog w = .ok (.slice (some ⟨w.heap.size, 0, none⟩) n n) (w.alloc (.cells (madeCells #[.int .u8 0] n) 5)) := by
  obtain ⟨i0, hi, hz0, hz1, hz2⟩ := info_parts Ybaf.Builder_Extra_169.infoByte
  have hm := run_make (P := Ybaf.prog) w 22 5 i0 (.int .u8 0) Ybaf.underlying22 hi hz0 .i64 .i64 n n (by omega) (by omega) (by rw [hz2]; omega) (by omega)
  rw [hz1, Nat.mul_one, Int.toNat_natCast] at hm
  exact hm

theorem filled_start (zs : List Int) (n : Nat) (w : World) : Filled zs w.heap.size n 0 (w.alloc (.cells (madeCells #[.int .u8 0] n) 5)) :=
  ⟨_, heap_alloc_new w _, size_madeCells _ _, fun _ hj => absurd hj (Nat.not_lt_zero _)⟩

/-- A callee that only computes, met behind draws that have been added up. -/
theorem quiet_add {P : Program} {f : FuncId} {args : Array Value} {w : World} {a n : Nat} {v : Value} (h : Calls P f args (w.drewN (a + n)) fun e w' => e = .returned v ∧ w' = w.drewN (a + n)) :
    Calls P f args (w.drewN (a + n)) fun e w'' => e = .returned v ∧ ∃ k, w'' = w.drewN (a + k) :=
  h.mono fun _ _ ⟨he, hm⟩ => ⟨he, n, hm⟩

set_option maxHeartbeats 800000 in
theorem plain_some (b off len cap : Nat) (zs : List Int) (w : World) (hb : b < w.heap.size) (hm : len ≤ 4096)
    (hc : ∀ i, i < len → w.cell? ⟨b, off + i, none⟩ = some (.int .u8 (zs.getD i 0))) (hz : ∀ i, i < len → 0 ≤ zs.getD i 0 ∧ zs.getD i 0 ≤ 255) :
    Calls Ybaf.prog 5 #[.slice (some ⟨b, off, none⟩) len cap] w fun e w' => e = .returned (.bool true) ∧ Below w.heap.size w w' := by
  have hC : Hid (∀ i, i < len → w.cell? ⟨b, off + i, none⟩ = some (.int .u8 (zs.getD i 0))) := hc
  have hZ : Hid (∀ i, i < len → 0 ≤ zs.getD i 0 ∧ zs.getD i 0 ≤ 255) := hz
  clear hc hz
  have hmk := run_make8 len hm
  go_enter Ybaf.func5, Ybaf.ntmps5
  go_wp2
  go_loopw [4] (fun i wr => ∃ k : Nat, k ≤ len ∧ i = .int .i64 k ∧ Filled zs w.heap.size len k wr ∧ Below w.heap.size w wr ∧ w.heap.size < wr.heap.size)
    (fun i _ => len - (intOf i).toNat)
  case atStart => exact ⟨0, Nat.zero_le _, rfl, filled_start zs len w, (Below.refl _ _).alloc (Nat.le_refl _) _, by simp⟩
  case round =>
    obtain ⟨k, hk, rfl, hF, hB, hS⟩ := hrel
    have HF : Hid (Filled zs w.heap.size len k wr) := hF
    clear hF hmk
    by_cases hlt : k < len
    · have c0 : wr.cell? ⟨b, off + k, none⟩ = some (.int .u8 (zs.getD k 0)) := (hB.cell (p := ⟨b, off + k, none⟩) hb).trans (hC.out k hlt)
      obtain ⟨z0, z1⟩ := hZ.out k hlt
      obtain ⟨⟨v, c1⟩, f1, hn⟩ := HF.out.next hlt
      have HN : Hid (Filled zs w.heap.size len (k + 1) (wr.setCell ⟨w.heap.size, k, none⟩ (.int .u8 (pr (zs.getD k 0))))) := hn
      clear hn
      generalize zs.getD k 0 = z at *
      go_wp2_with fail
      refine (pr_any z _ z0 z1).mono ?_
      rintro e w1 ⟨rfl, rfl⟩
      go_wp2
      go_roundw
      case rel => exact ⟨k + 1, by omega, by go_num, HN.out, hB.setCell (p := ⟨w.heap.size, k, none⟩) (Nat.le_refl _) _, by simpa using hS⟩
      case measure => simp [intOf]; omega
    · have hkl : k = len := by omega
      subst hkl
      go_wp2_with fail
      refine (name_of w.heap.size k k (by8 zs k) wr (by8_length zs k) hS hm (fun j hj => by rw [by8_at]; exact HF.out.cell j (by rwa [by8_length] at hj)) (fun j hj => by rw [by8_at]; exact pr_bounds _)).mono ?_
      rintro e w1 ⟨⟨s, rfl, hs, hsb⟩, hb1⟩
      have HS : Hid (∀ j (hj : j < s.size), (s[j].toNat : Int) = pr (zs.getD j 0)) := fun j hj => (hsb j hj (by rw [by8_length]; omega)).trans (by8_at zs k j _)
      clear hsb
      have HF1 : Hid (∀ j, j < k → w1.cell? ⟨w.heap.size, j, none⟩ = some (.int .u8 (pr (zs.getD j 0)))) := fun j hj => (hb1.cell (p := ⟨w.heap.size, j, none⟩) hS).trans (HF.out.cell j hj)
      have HB1 : Hid (Below w.heap.size w w1) := hB.trans (hb1.mono hB.size)
      clear HF hb1 hB hS
      go_wp2
      go_loopw [6] (fun i wq => ∃ j m : Nat, j ≤ k ∧ i = .int .i64 j ∧ wq = w1.drewN m) (fun i _ => k - (intOf i).toNat)
      case atStart => exact ⟨0, 0, Nat.zero_le _, rfl, rfl⟩
      case round =>
        obtain ⟨j, m, hj, rfl, rfl⟩ := hrel
        by_cases hlt : j < k
        · have c0 : w1.cell? ⟨b, off + j, none⟩ = some (.int .u8 (zs.getD j 0)) := (HB1.out.cell (p := ⟨b, off + j, none⟩) hb).trans (hC.out j hlt)
          have c1 := HF1.out j hlt
          obtain ⟨z0, z1⟩ := hZ.out j hlt
          have e1 := HS.out j (by omega)
          generalize zs.getD j 0 = z at *
          go_wp2_with fail
          go_quiet (fail)
          go_wp2
          go_quiet ((go_at_call 11; exact quiet_add (pr_any _ _ z0 z1)))
          go_wp2
          go_roundw
          case rel => exact ⟨j + 1, _, by omega, by go_num, rfl⟩
          case measure => simp [intOf]; omega
        · go_wp2
          go_ret
          have hb := HB1.out
          exact ⟨rfl, ⟨hb.os, hb.tape, hb.output, hb.size, hb.block⟩⟩

theorem plain_great (a : Option Addr) (len cap : Nat) (w : World) (hm : ¬ len ≤ 4096) :
    Calls Ybaf.prog 5 #[.slice a len cap] w fun e w' => e = .returned (.bool true) ∧ Below w.heap.size w w' := by
  have hg : (4096 : Int) < (len : Int) := by omega
  go_enter Ybaf.func5, Ybaf.ntmps5
  go_wp2
  go_ret
  exact ⟨rfl, Below.refl _ _⟩

set_option maxHeartbeats 800000 in
theorem plain_empty (a : Option Addr) (cap : Nat) (w : World) :
    Calls Ybaf.prog 5 #[.slice a 0 cap] w fun e w' => e = .returned (.bool true) ∧ Below w.heap.size w w' := by
  have hmk := run_make8 0 (by omega)
  simp only [Int.natCast_zero] at hmk
  go_enter Ybaf.func5, Ybaf.ntmps5
  go_wp2
  refine wp_loop_rounds 1 ?_
  rw [rounds_succ]
  go_wp2_with fail
  refine (name_of w.heap.size 0 0 [] _ rfl (by simp) (by omega) (fun j hj => absurd hj (Nat.not_lt_zero _)) (fun j hj => absurd hj (Nat.not_lt_zero _))).mono ?_
  rintro e w1 ⟨⟨s, rfl, hs, _⟩, hb1⟩
  have HB1 : Hid (Below w.heap.size w w1) := ((Below.refl _ _).alloc (Nat.le_refl _) _).trans (hb1.mono (by simp))
  clear hb1
  go_wp2
  refine wp_loop_rounds 1 ?_
  rw [rounds_succ]
  go_wp2
  go_ret
  exact ⟨rfl, HB1.out⟩

end Go.Proofs.YbulkblqcFmt
