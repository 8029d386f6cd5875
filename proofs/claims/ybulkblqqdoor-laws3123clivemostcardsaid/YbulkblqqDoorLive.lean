/-
  'Rows.LawS3123CLiveMostCardSaid': the row, then its tied card.
-/
import Derived.Test.YbulkblqqDoorBase
namespace Go.Proofs.YbulkblqqDoor
open Go.ChangeShapes Go.WideShapes Go.ChangeAt Go.WideMaps Go.WideElems Go.RowKit Go.Maps

set_option maxRecDepth 100000 in
theorem live_lifted (os : Os) (started : os.Started) (H : Type) (enc : TypeId × Value → H) :
    ReturnsInHanded {} Ybad.checked os 4 .any (fun w args => (Rows.lawS3123CLiveMostSpec.pre enc Ybad.prog Ybad.f4 [] false w args ∧ laidMetH Ybad.prog Rows.lawS3123CTableRow.laid w) ∧ sizedMet enc Ybad.prog Ybad.f4 (OpenSpec.ofChange Rows.lawS3123CLiveMostSpec) false w args)
      (Rows.lawS3123CLiveMostSpec.post enc Ybad.prog Ybad.f4 false true false false) := by
  refine returnsInHanded_of_change_and (C := Ybad.checked) (X := fun w _ => laidMetH Ybad.prog Rows.lawS3123CTableRow.laid w) (fun _ _ _ hh h => h.of_heap hh) own started (by kernel_rfl) Ybad.func4
    (ChangeSpec.witness_shaped (enc := enc) (C := Ybad.checked) (os := os) (X := fun w _ => laidMetH Ybad.prog Rows.lawS3123CTableRow.laid w) false (World.doorLaid Ybad.prog 400 os) #[.int .u8 0, .int .i64 0, .int .i64 0] 8 rfl (World.shaped_of_RefB (by kernel_rfl) (by kernel_rfl)) (by kernel_rfl) (by kernel_rfl) (by kernel_rfl) (door_met os _)) ?_
  intro W base args ds gs before hval0 hW _ _ hL _
  have hval : ∀ (j : Nat) t v, Ybad.f4.params[j]? = some t → args[j]? = some v → Value.okWide Ybad.prog W .any base t v := hval0
  have hW' := hW
  obtain ⟨p, q, hA0, hV0, rfl, hfz, hnd⟩ := hW
  have hA : DataW.TrodAll enc Ybad.prog W 0 (fun _ => true) true Ybad.f4.params.toList args.toList ds p := hA0
  have hV : DataW.TrodVars enc Ybad.prog W (fun _ => true) [keptName] gs q := hV0
  rw [Ybad.params4] at hA hval
  obtain ⟨v0, v1, v2, d0, d1, d2, p0, p1, p2, rfl, rfl, rfl, h0, h1, h2⟩ := trodAll_three hA
  obtain ⟨a0, rfl, rfl, rfl, w0⟩ := open_int Ybad.underlying5 (hval 0 5 v0 rfl rfl) h0
  obtain ⟨a1, rfl, rfl, rfl, w1⟩ := open_int Ybad.underlying2 (hval 1 2 v1 rfl rfl) h1
  obtain ⟨a2, rfl, rfl, rfl, w2⟩ := open_int Ybad.underlying2 (hval 2 2 v2 rfl rfl) h2
  obtain ⟨bm, hk⟩ := of_laid hL
  have hltv : ∀ x ∈ q, x.block < W.heap.size := fun x hx => hW'.lt x (List.mem_append_right _ hx)
  clear hA0 hV0 hval0
  obtain ⟨b0, b0'⟩ := bounds_u8 w0
  refine (live_any a0 a1 a2 W bm b0 b0' hk).mono fun e W' ⟨he, hB⟩ => ?_
  subst he
  obtain ⟨d, rfl, hv'⟩ := vars_again hV hB hltv hk.2.1
  refine ⟨_, rfl, _, _, _, [], [], q, hW', ?_, ?_, ?_, hB.frame _, fun h => by cases h⟩
  · exact trodAll_mk1 (shut_bool Ybad.underlying4 _)
  · exact trodAll_mk3 (shut_int Ybad.underlying5 w0) (shut_int Ybad.underlying2 w1) (shut_int Ybad.underlying2 w2)
  · exact hv'

theorem live_holds : Rows.LawS3123CLiveMostSaid :=
  OpenClaim.holds_of_wide 4 Ybad.f4 rfl rfl rfl rfl rfl rfl rfl ⟨rfl, rfl, rfl, rfl, rfl⟩ rfl rfl rfl rfl rfl (by kernel_rfl) Ybad.func4 (by kernel_rfl)
    (of_decide_eq_true (by kernel_rfl)) (by unfold Func.isWrapper; first | (rw [if_pos (by decide +kernel)]; kernel_rfl) | (rw [if_neg (by decide +kernel)]; exact ⟨rfl, rfl⟩))
    (fun os started H enc _ => live_lifted os started H enc)

theorem live_card : Rows.LawS3123CLiveMostCardSaid :=
  Claim7.holds_tied_plain_at .later [] [.mapped] true (true, "18834b01f6f0cfa3969f6290830f8a0812774b5779a1171501f428edb225f618") false
    live_holds (fun _ h => by cases h) (by kernel_rfl) (fun _ h => by cases h) lawS3123CLiveMost_row_tie rfl ⟨rfl, rfl⟩ (by kernel_rfl) rfl
    (fun f fn hf hfn => by
      obtain rfl : f = 4 := Option.some.inj ((show Ybad.prog.funcNamed Rows.lawS3123CLiveMostRow.func = some 4 by kernel_rfl).symm.trans hf) |>.symm
      obtain rfl : fn = Ybad.f4 := (Option.some.inj (Ybad.func4.symm.trans hfn)).symm
      exact ⟨by kernel_rfl, fun j t ht => by
        rw [Ybad.params4] at ht
        have hm : t ∈ [5, 2, 2] := by simpa using Array.mem_of_getElem? ht
        have hall : ([5, 2, 2].all fun u => !Ybad.prog.wantsStandIn u) = true := by kernel_rfl
        exact (show Ybad.prog.wantsStandIn t = false by simpa using List.all_eq_true.1 hall t hm)⟩)
    (by kernel_rfl)

end Go.Proofs.YbulkblqqDoor
