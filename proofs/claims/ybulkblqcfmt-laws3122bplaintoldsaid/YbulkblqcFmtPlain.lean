/-
  THE WALKS of 'doi.LawS3122BPlain': zzs3122bprintable, name (its verbatim branch alone) and the law.
-/
import Derived.Test.YbulkblqcFmtBuilder
import Derived.WalkKit
import Derived.Below
import Derived.Deep.QuietTactic
import Derived.BigQuiet
import Derived.Lib.VarintMem
namespace Go.Proofs.YbulkblqcFmt
open Go.RowKit

/-- The printable byte that a byte is mapped to. -/
def pr (x : Int) : Int := if 33 + x % 94 = 92 then 126 else 33 + x % 94

theorem pr_bounds (x : Int) : 33 ≤ pr x ∧ pr x ≤ 126 ∧ pr x ≠ 92 := by
  unfold pr
  split <;> omega

theorem pr_any (x : Int) (w : World) (h0 : 0 ≤ x) (h1 : x ≤ 255) :
    Calls Ybaf.prog 11 #[.int .u8 x] w fun e w' => e = .returned (.int .u8 (pr x)) ∧ w' = w := by
  by_cases c : 33 + x % 94 = 92
  · have hp : pr x = 126 := by simp [pr, c]
    have d : (33 + x % 94 == 92) = true := by simpa using c
    rw [hp]
    clear hp c
    go_enter Ybaf.func11, Ybaf.ntmps11
    go_wp2
    go_ret
    exact ⟨rfl, rfl⟩
  · have hp : pr x = 33 + x % 94 := by simp [pr, c]
    have d : (33 + x % 94 == 92) = false := by simpa using c
    rw [hp]
    clear hp c
    go_enter Ybaf.func11, Ybaf.ntmps11
    go_wp2
    go_ret
    exact ⟨rfl, rfl⟩

theorem take_snoc (l : List UInt8) (k : Nat) (h : k < l.length) : l.take (k + 1) = l.take k ++ [l[k]] := by
  rw [List.take_succ_eq_append_getElem h]

set_option maxHeartbeats 400000 in
/-- 'name' on bytes that it writes verbatim: the string of the bytes. -/
theorem name_any (g cap : Nat) (l : List UInt8) (w : World) (hg : g < w.heap.size) (hl : l.length ≤ 4096)
    (hc : ∀ j (hj : j < l.length), w.cell? ⟨g, j, none⟩ = some (.int .u8 (l[j].toNat : Int)))
    (hp : ∀ j (hj : j < l.length), 33 ≤ (l[j].toNat : Int) ∧ (l[j].toNat : Int) ≤ 126 ∧ (l[j].toNat : Int) ≠ 92) :
    Calls Ybaf.prog 12 #[.slice (some ⟨g, 0, none⟩) l.length cap] w fun e w' => e = .returned (.string ⟨l.toArray⟩) ∧ Below w.heap.size w w' := by
  have hC : Hid (∀ j (hj : j < l.length), w.cell? ⟨g, j, none⟩ = some (.int .u8 (l[j].toNat : Int))) := hc
  have hP : Hid (∀ j (hj : j < l.length), 33 ≤ (l[j].toNat : Int) ∧ (l[j].toNat : Int) ≤ 126 ∧ (l[j].toNat : Int) ≠ 92) := hp
  clear hc hp
  go_enter Ybaf.func12, Ybaf.ntmps12
  go_wp2
  go_loopw [8] (fun i wr => ∃ k : Nat, k ≤ l.length ∧ i = .int .i64 k ∧ Lib.IsBuilder 67 5 w.heap.size w.heap.size (Lib.byteCells (l.take k)) wr ∧ Below w.heap.size w wr)
    (fun i _ => l.length - (intOf i).toNat)
  case atStart => exact ⟨0, Nat.zero_le _, rfl, Lib.fresh_isBuilder 67 5 w, (Below.refl _ _).alloc (Nat.le_refl _) _⟩
  case round =>
    obtain ⟨k, hk, rfl, hB, hb⟩ := hrel
    by_cases hlt : k < l.length
    · have hcell : wr.cell? ⟨g, k, none⟩ = some (.int .u8 (l[k].toNat : Int)) := (hb.cell (p := ⟨g, k, none⟩) hg).trans (hC.out k hlt)
      obtain ⟨p1, p2, p3⟩ := hP.out k hlt
      have q2 : decide (126 < (l[k].toNat : Int)) = false := by simp; omega
      have q3 : ((l[k].toNat : Int) == 92) = false := by simpa using p3
      have hsz : (Lib.byteCells (l.take k)).length + 1 ≤ 140737488355328 := by rw [Lib.byteCells_length, List.length_take]; omega
      have HS : Hid (Lib.byteCells (l.take (k + 1)) = Lib.byteCells (l.take k) ++ [.int .u8 (l[k].toNat : Int)]) := by rw [take_snoc l k hlt, Lib.byteCells_append]; rfl
      clear p3
      go_wp2_with fail
      refine (Ybaf.writeByte_any _ _ _ _ _ hB hsz hb.size).mono ?_
      rintro e w1 ⟨rfl, hB1, hb1⟩
      go_wp2
      go_roundw
      case rel => exact ⟨k + 1, by omega, by go_num, Or.inr (by rw [HS.out]; exact hB1), hb.trans hb1⟩
      case measure => simp [intOf]; omega
    · have hkl : l.take k = l := List.take_of_length_le (by omega)
      rw [hkl] at hB
      clear hkl
      go_wp2_with fail
      refine (Ybaf.Builder_String_any _ _ _ _ hB hb.size).mono ?_
      rintro e w1 ⟨rfl, hb1⟩
      go_wp2
      go_ret
      exact ⟨rfl, hb.trans hb1⟩

end Go.Proofs.YbulkblqcFmt
