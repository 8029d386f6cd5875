/-
  'Rows.LawS3122AModelToldSaid': the told and tied card of 'wire.LawS3122AModel'. Of fmt's text the proof uses nothing but that it is a string.
-/
import Derived.Test.YbulkblqcFmtRows
import Derived.Test.YbulkblqcFmtCards
import Derived.Test.YbulkblqcFmtTie
import Derived.Test.YbulkblqcFmtModel
import Derived.Test.YbulkblqcFmtLaid
import Derived.ChangeSlices
import Derived.ChangeSame
import Derived.JoinedOf
import Derived.Carry
import Derived.Stop.JoinedAt
import Derived.Stop.Texts
import Derived.Stop.JoinedTold
import Derived.SizedLaws
import Derived.SevenTiedAt
namespace Go.Proofs.YbulkblqcFmt
open Go.ChangeShapes Go.WideShapes Go.ChangeAt Go.RowKit Go.Kit
open Go.Extern.Stop Go.Stop Go.Extern

theorem ownM : ownKnob Ybaf.prog.godebug = none := by kernel_rfl
theorem laidOutM : laidOutB Ybaf.pinned.checked.prog = true := by kernel_rfl
theorem cells5M : Ybaf.prog.cellsOf 5 = 1 := by kernel_rfl
theorem stopsAreM : Ybaf.pinned.checked.prog.stops = Rows.lawS3122AModelRow.stops := by kernel_rfl
theorem stopKnobsM : Ybaf.pinned.checked.prog.stopKnobs = [] := by kernel_rfl
theorem quietOfM (os : Os) : Stop.quiet Ybaf.pinned.checked.prog os := by
  intro k hk
  rw [stopKnobsM] at hk
  cases hk

theorem witness_model (os : Os) {H : Type} (enc : TypeId × Value → H) :
    (OpenSpec.ofChange Rows.lawS3122AModelSpec).preRow enc Ybaf.prog Ybaf.f3 [] false Rows.lawS3122AModelRow.laid ((World.doorLaid Ybaf.prog 400 os).forCall (fun _ _ => 0) ⟨#[], #[.int .u8 0, .slice none 0 0], []⟩).memory #[.int .u8 0, .slice none 0 0] :=
  OpenSpec.preRow_of_B rfl 8 (by kernel_rfl) (by kernel_rfl) (door_met os _)

set_option maxRecDepth 100000 in
theorem model_lifted (os : Os) (started : os.Started) (H : Type) (enc : TypeId × Value → H) :
    ReturnsInTold none {} Ybaf.checked os 3 .any Input.okWide ((OpenSpec.ofChange Rows.lawS3122AModelSpec).preRow enc Ybaf.prog Ybaf.f3 [] false Rows.lawS3122AModelRow.laid)
      (fun F => ((OpenSpec.ofChange Rows.lawS3122AModelSpec).at F).post enc Ybaf.prog Ybaf.f3 false true false false) (aloneAtReturn Ybaf.prog) nothingAlways := by
  refine returnsInTold_of_row (C := Ybaf.checked) (s := OpenSpec.ofChange Rows.lawS3122AModelSpec) (by kernel_rfl) ownM started (by kernel_rfl) Ybaf.func3
    (OpenSpec.witness_stopped_atRef (enc := enc) (C := Ybaf.checked) false (World.doorLaid Ybaf.prog 400 os) #[.int .u8 0, .slice none 0 0] rfl (by kernel_rfl) (by kernel_rfl) (by kernel_rfl) (witness_model os enc)) ?_
  intro F W base args ds gs before _ hF hval0 hW _ _ hsz hL _
  have hval : ∀ (j : Nat) t v, Ybaf.f3.params[j]? = some t → args[j]? = some v → Value.okWide Ybaf.prog W .any base t v := hval0
  have hW' := hW
  obtain ⟨p, q, hA0, hV0, rfl, _, _⟩ := hW
  have hA : DataW.TrodAll enc Ybaf.prog W 0 (fun _ => true) true Ybaf.f3.params.toList args.toList ds p := hA0
  have hV : DataW.TrodVars enc Ybaf.prog W (fun _ => true) [tabName] gs q := hV0
  rw [Ybaf.params3] at hA hval
  obtain ⟨v0, v1, d0, d1, p0, p1, rfl, rfl, rfl, h0, h1⟩ := trodAll_two hA
  obtain ⟨a0, rfl, rfl, rfl, w0⟩ := open_int Ybaf.underlying5 (hval 0 5 v0 rfl rfl) h0
  obtain ⟨a1, len, cap, rfl⟩ := okWide_slice Ybaf.underlying22 (hval 1 22 v1 rfl rfl)
  have h1k := h1
  obtain ⟨fuel, hf⟩ := h1
  obtain ⟨bm, hT⟩ := of_laid hL
  clear hA0 hV0 hval0
  have hlt : ∀ x ∈ p1, x.block < W.heap.size := fun x hx => hW'.lt x (List.mem_append_left _ (List.mem_append_right _ hx))
  have hltv : ∀ x ∈ q, x.block < W.heap.size := fun x hx => hW'.lt x (List.mem_append_right _ hx)
  suffices hw : Calls Ybaf.prog 3 #[.int .u8 a0, .slice a1 len cap] W fun e W' => e = .returned (.bool true) ∧ Below W.heap.size W W' by
    refine hw.mono fun e W' ⟨he, hnx⟩ => ?_
    subst he
    obtain ⟨d, rfl, hv'⟩ := vars_again hV hnx hltv hT.2.1
    exact ⟨_, rfl, _, _, _, [], [] ++ p1, q, hW', trodAll_mk1 (shut_bool Ybaf.underlying4 _), trodAll_mk2 (shut_int Ybaf.underlying5 w0) (Below.trod laidOutM (by kernel_rfl) (of_decide_eq_true (by kernel_rfl)) h1k hnx hlt), hv', hnx.frame _, fun h => by cases h⟩
  have hb0 := bounds_u8 w0
  by_cases hbig : len ≤ 1048576
  · rcases open_ints Ybaf.underlying22 Ybaf.underlying5 cells5M hf with ⟨hcs, hx⟩ | ⟨a, len', cap', zs, hcs, _, hl, hm, hz, hx, hcell, hwz⟩
    · simp [Value.cells] at hcs
      obtain ⟨rfl, rfl, rfl⟩ := hcs
      exact model_empty bm _ _ a0 W hb0 hT
    · simp [Value.cells] at hcs
      obtain ⟨rfl, rfl, rfl⟩ := hcs
      simp only [if_true] at hz
      by_cases h0 : len = 0
      · subst h0
        exact model_empty bm _ _ a0 W hb0 hT
      · obtain ⟨b, off, rfl, hc⟩ := ints_at hcell (by omega)
        have hbW : b < W.heap.size := World.block_lt_of_cell? W ⟨b, off + 0, none⟩ (hc 0 (by omega))
        exact model_some bm _ (fun i => zs.getD i 0) b off len cap a0 W rfl hbig hl hb0 (fun i _ => by
          have := range_u8 hwz i
          simpa [List.getD] using this) ⟨hbW, fun i hi => hc i (by omega)⟩ hT
  · exact model_great a1 len cap a0 W hbig

theorem model_told : Rows.LawS3122AModelToldSaid :=
  Claim7.holds_of_told_tied_any_at .later 3 Ybaf.f3 _ [] [] _ _ _ _ _ (by kernel_rfl) rfl rfl rfl laidOutM (by kernel_rfl) rfl ⟨rfl, rfl, rfl, rfl, rfl, rfl, rfl⟩ rfl rfl (by kernel_rfl) (by kernel_rfl) Ybaf.func3 (by kernel_rfl)
    (of_decide_eq_true (by kernel_rfl)) (of_decide_eq_true (by kernel_rfl)) stopsAreM.symm rfl stopKnobsM.symm (by kernel_rfl)
    (by kernel_rfl) (by kernel_rfl) (by kernel_rfl) (by kernel_rfl) (by kernel_rfl) (by kernel_rfl) (by kernel_rfl) (by kernel_rfl) (by kernel_rfl) rfl (by kernel_rfl) rfl rfl
    rfl rfl
    rfl (by kernel_rfl) (by kernel_rfl) (by kernel_rfl) (by decide) (by kernel_rfl) lawS3122AModel_row_tie
    (OpenClaim.moreEntering_of (by kernel_rfl) (by kernel_rfl) (by kernel_rfl) (by kernel_rfl) (by kernel_rfl) (by kernel_rfl) (by kernel_rfl) (by kernel_rfl) (by kernel_rfl) (by kernel_rfl))
    ⟨_, WideRow.started_initial, quietOfM _⟩
    (fun os started _ H enc _ => model_lifted os started H enc)

end Go.Proofs.YbulkblqcFmt
