/-
  WHAT THE TWO ROWS OF SEAT b3123aD SHARE: the listed map is opened off the row's condition 'laid' and every look-up is answered off the datum, in every later world; the named variable is read again behind the call by 'Below.trod'; the witness starts in the heap that the door's own run leaves. After the guide's Mapy and Balanced texts.
-/
import Derived.Test.YbulkblqqDoorRows
import Derived.Test.YbulkblqqDoorWalks
import Derived.Test.YbulkblqqDoorTie
import Derived.Test.YbulkblqqDoorCards
import Derived.ProofKit
import Derived.LaidMore
import Derived.OpenShut
import Derived.ChangeOld
import Derived.Maps.OwnSet
import Derived.Stop.Joined
import Derived.SevenTiedAt
namespace Go.Proofs.YbulkblqqDoor
open Go.ChangeShapes Go.WideShapes Go.ChangeAt Go.WideMaps Go.WideElems Go.RowKit Go.Maps

theorem own : ownKnob Ybad.prog.godebug = none := by kernel_rfl
theorem laidOut : laidOutB Ybad.prog = true := by kernel_rfl
/-- The listed variable's name, off the row. -/
abbrev keptName : String := (Rows.lawS3123CTableSpec.vars).headD default
theorem gKept : Ybad.prog.globalNamed keptName = some 0 := by kernel_rfl
theorem tKept : (Ybad.prog.globals[0]?).map (·.type) = some 32 := by kernel_rfl
theorem law2 : Keyed Ybad.prog 2 := int_keyed Ybad.underlying2
theorem zero3 (w : World) : (zeroValue 3).run Ybad.prog w = .ok (.int .i64 0) w := by kernel_rfl

/-- The datum, asked at a key. -/
theorem kept_at (k : Int) : (Rows.laid_example_com_wiretally_wiretally_tally_keptKeys (H := Unit)).atKey (.int .i64 k) (.lit (.int .i64 0)) = .lit (.int .i64 (kept k)) := by
  unfold kept Rows.laid_example_com_wiretally_wiretally_tally_keptKeys DataW.atKey
  by_cases h1 : k = 60
  · subst h1; rfl
  · by_cases h2 : k = 300
    · subst h2; rfl
    · simp [Lit.sameKey, h1, h2, Ne.symm h1, Ne.symm h2]

/-- WHAT THE CONDITION GIVES THE WALKS. -/
theorem of_laid {W : World} (h : laidMetH Ybad.prog Rows.lawS3123CTableRow.laid W) : ∃ bm, Looks W bm := by
  have hp : laidMetH Ybad.prog Rows.lawS3123CTableRow.laid W = laidMet Ybad.prog Rows.lawS3123CTableRow.laid W := MakeChecks.laidMetH_plain _ _ _ (by kernel_rfl)
  rw [hp] at h
  obtain ⟨ps, ⟨g0, t0, cs0, f0, p0, q0, hg0, ht0, hv0, hd0, _, _⟩, _, _⟩ := h
  obtain rfl := Option.some.inj (gKept.symm.trans hg0)
  obtain rfl := Option.some.inj (tKept.symm.trans ht0)
  rcases open_map Ybad.underlying32 hd0 with ⟨_, hx⟩ | ⟨bm, es, clock, m, rfl, hcs, hb, _, F, hx⟩
  · simp [Rows.laid_example_com_wiretally_wiretally_tally_keptKeys] at hx
  simp only [Prod.mk.injEq] at hx
  have hcell : W.cell? ⟨0, 0, none⟩ = some (.map (some bm)) := by
    have := World.var?_cell hg0 hv0 0
    rw [Array.eq_one_of_toList hcs] at this
    simpa using this
  have hbm : bm < W.heap.size := lt_of_block hb
  have h0 : 0 < W.heap.size := Nat.lt_of_le_of_lt (Nat.zero_le _) hbm
  have hown := World.ownsMap_of_fit (R := plainElem Ybad.prog 3) hb F (fun x _ z hz => elemAt_plainElem_int Ybad.underlying3 hz)
  rw [← hx.1] at hown
  refine ⟨bm, hcell, h0, fun wr hB k hk => ?_⟩
  obtain ⟨es', clock', hb', F', hle, hDD⟩ := hown
  have hown' : wr.ownsMap Ybad.prog 2 (plainElem Ybad.prog 3) bm es.size (Rows.laid_example_com_wiretally_wiretally_tally_keptKeys (H := Unit)) := ⟨es', clock', by rw [hB.block bm hbm]; exact hb', F', hle, hDD⟩
  obtain ⟨c', hrun, hat, _⟩ := hown'.lookup_int law2 Ybad.underlying32 Ybad.underlying3 (zero3 _) (keyOf_int_mk Ybad.underlying2 hk)
  rw [kept_at] at hat
  simp only [DataW.lit.injEq, Lit.int.injEq, true_and] at hat
  rw [hrun, hat]

/-- The named variable reads as it did. -/
theorem vars_again {H : Type} {enc : TypeId × Value → H} {W W' : World} {gs : List (DataW H)} {q : List MemPlace} (hV : DataW.TrodVars enc Ybad.prog W (fun _ => true) [keptName] gs q)
    (hB : Below W.heap.size W W') (hlt : ∀ x ∈ q, x.block < W.heap.size) (h0 : 0 < W.heap.size) :
    ∃ d, gs = [d] ∧ DataW.TrodVars enc Ybad.prog W' (fun b => decide (b < W.heap.size)) [keptName] [d] q := by
  obtain ⟨g, t, cs, fuel, d, p', rfl, hg, ht, hvar, hd, rfl⟩ := trodVars_one hV
  obtain rfl := Option.some.inj (gKept.symm.trans hg)
  obtain rfl := Option.some.inj (tKept.symm.trans ht)
  have hcs1 : ∃ r, cs = #[.map r] := by
    rcases open_map Ybad.underlying32 hd with ⟨hcs, _⟩ | ⟨bm, es, clock, m, hfu, hcs, _⟩
    · exact ⟨_, Array.eq_one_of_toList hcs⟩
    · exact ⟨_, Array.eq_one_of_toList hcs⟩
  obtain ⟨r, rfl⟩ := hcs1
  have hltv : ∀ x ∈ p', x.block < W.heap.size := fun x hx => hlt x (List.mem_append_right _ hx)
  obtain ⟨fuel', hd'⟩ := Below.trod laidOut (by kernel_rfl) (of_decide_eq_true (by kernel_rfl)) (v := .map r) (⟨fuel, by simpa [Value.cells] using hd⟩ : DataW.Trod enc Ybad.prog W 0 (fun _ => true) true 32 (.map r) d p') hB hltv
  have hvar' : W'.var? Ybad.prog keptName = some #[.map r] := by
    unfold World.var? at hvar ⊢
    simp only [hg, Option.bind_some] at hvar ⊢
    rw [hB.block 0 h0]
    exact hvar
  exact ⟨d, rfl, trodVars_mk1 hg ht hvar' (by simpa [Value.cells] using hd')⟩

/-- The door's own heap meets the condition: three closed facts. -/
theorem door_met (os : Os) (args : Array Value) : laidMetH Ybad.prog Rows.lawS3123CTableRow.laid ((World.doorLaid Ybad.prog 400 os).forCall (fun _ _ => 0) ⟨#[], args, []⟩).memory :=
  laidMetH_of_parts3 (fuel := 8) (laidMet_of_run' 8 (by kernel_rfl) (by kernel_rfl)) (by kernel_rfl) (by kernel_rfl)

end Go.Proofs.YbulkblqqDoor
