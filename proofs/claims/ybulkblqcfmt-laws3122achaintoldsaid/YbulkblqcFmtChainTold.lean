/-
  'Rows.LawS3122AChainToldSaid': the told and tied card of 'wire.LawS3122AChain'. Of fmt's text the proof uses nothing but that it is a string.
-/
import Derived.Test.YbulkblqcFmtRows
import Derived.Test.YbulkblqcFmtCards
import Derived.Test.YbulkblqcFmtTie
import Derived.Test.YbulkblqcFmtChain
import Derived.Test.YbulkblqcFmtLaid
import Derived.ChangeSlices
import Derived.ChangeSame
import Derived.JoinedOf
import Derived.Carry
import Derived.Stop.JoinedAt
import Derived.Stop.Texts
import Derived.Stop.JoinedTold
import Derived.SizedLaws
import Derived.SevenTiedAt
import Derived.Deep.SlicePairs
namespace Go.Proofs.YbulkblqcFmt
open Go.ChangeShapes Go.WideShapes Go.ChangeAt Go.RowKit Go.Kit
open Go.Extern.Stop Go.Stop Go.Extern

theorem ownC : ownKnob Ybaf.prog.godebug = none := by kernel_rfl
theorem laidOutC : laidOutB Ybaf.pinned.checked.prog = true := by kernel_rfl
theorem cells5C : Ybaf.prog.cellsOf 5 = 1 := by kernel_rfl
theorem cells22C : Ybaf.prog.cellsOf 22 = 1 := by kernel_rfl
theorem cells49C : Ybaf.prog.cellsOf 49 = 2 := by kernel_rfl
theorem stopsAreC : Ybaf.pinned.checked.prog.stops = Rows.lawS3122AChainRow.stops := by kernel_rfl
theorem stopKnobsC : Ybaf.pinned.checked.prog.stopKnobs = [] := by kernel_rfl
theorem quietOfC (os : Os) : Stop.quiet Ybaf.pinned.checked.prog os := by
  intro k hk
  rw [stopKnobsC] at hk
  cases hk

theorem laidSame : Rows.lawS3122AChainRow.laid = Rows.lawS3122AModelRow.laid := rfl

theorem witness_chain (os : Os) {H : Type} (enc : TypeId × Value → H) :
    (OpenSpec.ofChange Rows.lawS3122AChainSpec).preRow enc Ybaf.prog Ybaf.f4 [] false Rows.lawS3122AChainRow.laid ((World.doorLaid Ybaf.prog 400 os).forCall (fun _ _ => 0) ⟨#[], #[.slice none 0 0, .slice none 0 0], []⟩).memory #[.slice none 0 0, .slice none 0 0] :=
  OpenSpec.preRow_of_B rfl 8 (by kernel_rfl) (by kernel_rfl) (door_met os _)

section
variable {H : Type} {enc : TypeId × Value → H}

/-- A slice of octets, opened. -/
theorem src_of {W : World} {fuel : Nat} {held : Bool} {v : Value} {x : DataW H × List MemPlace} (h : DataW.trod enc Ybaf.prog W 0 (fun _ => true) held fuel 22 [v] = some x) :
    ∃ a c l, v = .slice a l.length c ∧ Src W a c l ∧ ∀ y ∈ l, 0 ≤ y ∧ y ≤ 255 := by
  rcases open_ints Ybaf.underlying22 Ybaf.underlying5 cells5C h with ⟨hcs, _⟩ | ⟨a, len, cap, zs, hcs, _, hl, _, hz, _, hcell, hwz⟩
  · simp only [List.cons.injEq, and_true] at hcs
    exact ⟨none, 0, [], hcs, .inl ⟨rfl, rfl, rfl⟩, fun _ h => by cases h⟩
  · simp only [List.cons.injEq, and_true] at hcs
    simp only [if_true] at hz
    have e : (zs.take len).length = len := by simp; omega
    refine ⟨some a, cap, zs.take len, by rw [e]; exact hcs, .inr ⟨a, rfl, fun j hj => ?_⟩, fun y hy => bounds_u8 (hwz y (List.mem_of_mem_take hy))⟩
    have hj' : j < zs.length := by omega
    rw [hcell j hj']
    simp [hj']

/-- The items, opened. -/
theorem items_of {W : World} {fuel : Nat} {a0 : Option Addr} {n ci : Nat} {x : DataW H × List MemPlace} (h : DataW.trod enc Ybaf.prog W 0 (fun _ => true) true fuel 47 [.slice a0 n ci] = some x) :
    ∃ b off T A C bd, (n = 0 ∨ a0 = some ⟨b, off, none⟩) ∧ ItemsAt W b off n T A C bd := by
  rcases Go.Deep.open_slice_pairs Ybaf.underlying47 Ybaf.underlying49 cells49C rfl rfl cells5C cells22C h with ⟨hcs, _⟩ | ⟨a, len, cap, m, k, V0, V1, D0, D1, P0, P1, hcs, _, hl, _, hm, _, hall⟩
  · simp only [List.cons.injEq, and_true, Value.slice.injEq] at hcs
    obtain ⟨_, rfl, _⟩ := hcs
    exact ⟨0, 0, fun _ => 0, fun _ => none, fun _ => 0, fun _ => [], .inl rfl, fun i hi => absurd hi (Nat.not_lt_zero _)⟩
  · simp only [List.cons.injEq, and_true, Value.slice.injEq] at hcs
    obtain ⟨rfl, rfl, rfl⟩ := hcs
    simp only [if_true] at hm
    by_cases h0 : n = 0
    · subst h0
      exact ⟨0, 0, fun _ => 0, fun _ => none, fun _ => 0, fun _ => [], .inl rfl, fun i hi => absurd hi (Nat.not_lt_zero _)⟩
    obtain ⟨b, off, sp⟩ := a
    have hsp : sp = none := by simpa [Addr.add] using World.cell?_spot (hall 0 (by omega)).1
    subst hsp
    simp only [Addr.add_lit] at hall
    have each : ∀ i, i < n → ∃ q : Int × Option Addr × Nat × List Int, W.cell? ⟨b, off + i * 2, none⟩ = some (.int .u8 q.1) ∧ W.cell? ⟨b, off + i * 2 + 1, none⟩ = some (.slice q.2.1 q.2.2.2.length q.2.2.1) ∧
        Src W q.2.1 q.2.2.1 q.2.2.2 ∧ (0 ≤ q.1 ∧ q.1 ≤ 255) ∧ ∀ x ∈ q.2.2.2, 0 ≤ x ∧ x ≤ 255 := by
      intro i hi
      obtain ⟨h1, h2, h3, h4⟩ := hall i (by omega)
      obtain ⟨t, ht, _, hw⟩ := DataW.trod_int Ybaf.underlying5 h3
      simp only [List.cons.injEq, and_true] at ht
      obtain ⟨a, c, l, hv, hs, hb⟩ := src_of h4
      exact ⟨(t, a, c, l), by rw [h1, ht], by rw [Nat.add_assoc, h2, hv], hs, bounds_u8 hw, hb⟩
    obtain ⟨q, hq⟩ := Go.Deep.choose_lt each
    exact ⟨b, off, fun i => (q i).1, fun i => (q i).2.1, fun i => (q i).2.2.1, fun i => (q i).2.2.2, .inr rfl, hq⟩
end

set_option maxRecDepth 100000 in
theorem chain_lifted (os : Os) (started : os.Started) (H : Type) (enc : TypeId × Value → H) :
    ReturnsInTold none {} Ybaf.checked os 4 .any Input.okWide ((OpenSpec.ofChange Rows.lawS3122AChainSpec).preRow enc Ybaf.prog Ybaf.f4 [] false Rows.lawS3122AChainRow.laid)
      (fun F => ((OpenSpec.ofChange Rows.lawS3122AChainSpec).at F).post enc Ybaf.prog Ybaf.f4 false true false false) (aloneAtReturn Ybaf.prog) nothingAlways := by
  refine returnsInTold_of_row (C := Ybaf.checked) (s := OpenSpec.ofChange Rows.lawS3122AChainSpec) (by kernel_rfl) ownC started (by kernel_rfl) Ybaf.func4
    (OpenSpec.witness_stopped_atRef (enc := enc) (C := Ybaf.checked) false (World.doorLaid Ybaf.prog 400 os) #[.slice none 0 0, .slice none 0 0] rfl (by kernel_rfl) (by kernel_rfl) (by kernel_rfl) (witness_chain os enc)) ?_
  intro F W base args ds gs before _ hF hval0 hW _ _ hsz hL _
  have hval : ∀ (j : Nat) t v, Ybaf.f4.params[j]? = some t → args[j]? = some v → Value.okWide Ybaf.prog W .any base t v := hval0
  have hW' := hW
  obtain ⟨p, q, hA0, hV0, rfl, _, _⟩ := hW
  have hA : DataW.TrodAll enc Ybaf.prog W 0 (fun _ => true) true Ybaf.f4.params.toList args.toList ds p := hA0
  have hV : DataW.TrodVars enc Ybaf.prog W (fun _ => true) [tabName] gs q := hV0
  rw [Ybaf.params4] at hA hval
  obtain ⟨v0, v1, d0, d1, p0, p1, rfl, rfl, rfl, h0, h1⟩ := trodAll_two hA
  obtain ⟨a0, n, ci, rfl⟩ := okWide_slice Ybaf.underlying47 (hval 0 47 v0 rfl rfl)
  obtain ⟨a1, m, ct, rfl⟩ := okWide_slice Ybaf.underlying22 (hval 1 22 v1 rfl rfl)
  have h0k := h0
  have h1k := h1
  obtain ⟨fuel0, hf0⟩ := h0
  obtain ⟨fuel1, hf1⟩ := h1
  obtain ⟨bm, hT⟩ := of_laid hL
  clear hA0 hV0 hval0
  have hlt0 : ∀ x ∈ p0, x.block < W.heap.size := fun x hx => hW'.lt x (List.mem_append_left _ (List.mem_append_left _ hx))
  have hlt1 : ∀ x ∈ p1, x.block < W.heap.size := fun x hx => hW'.lt x (List.mem_append_left _ (List.mem_append_right _ hx))
  have hltv : ∀ x ∈ q, x.block < W.heap.size := fun x hx => hW'.lt x (List.mem_append_right _ hx)
  suffices hw : Calls Ybaf.prog 4 #[.slice a0 n ci, .slice a1 m ct] W fun e W' => e = .returned (.bool true) ∧ Below W.heap.size W W' by
    refine hw.mono fun e W' ⟨he, hnx⟩ => ?_
    subst he
    obtain ⟨d, rfl, hv'⟩ := vars_again hV hnx hltv hT.2.1
    exact ⟨_, rfl, _, _, _, [], p0 ++ p1, q, hW', trodAll_mk1 (shut_bool Ybaf.underlying4 _), trodAll_mk2 (Below.trod laidOutC (by kernel_rfl) (of_decide_eq_true (by kernel_rfl)) h0k hnx hlt0) (Below.trod laidOutC (by kernel_rfl) (of_decide_eq_true (by kernel_rfl)) h1k hnx hlt1), hv', hnx.frame _, fun h => by cases h⟩
  by_cases hbig : n ≤ 256 ∧ m ≤ 4096
  · obtain ⟨a, c, tl, hv, hS, htb⟩ := src_of (v := .slice a1 m ct) (by simpa [Value.cells] using hf1)
    simp only [Value.slice.injEq] at hv
    obtain ⟨rfl, rfl, rfl⟩ := hv
    obtain ⟨b, off, T, A, C, bd, hai, hI⟩ := items_of (a0 := a0) (n := n) (ci := ci) (by simpa [Value.cells] using hf0)
    exact chain_some bm b off n ci a0 a1 ct tl T A C bd W hbig.1 hai hI hbig.2 hS htb hT
  · exact chain_great a0 a1 n ci m ct W hbig

theorem chain_told : Rows.LawS3122AChainToldSaid :=
  Claim7.holds_of_told_tied_any_at .later 4 Ybaf.f4 _ [] [] _ _ _ _ _ (by kernel_rfl) rfl rfl rfl laidOutC (by kernel_rfl) rfl ⟨rfl, rfl, rfl, rfl, rfl, rfl, rfl⟩ rfl rfl (by kernel_rfl) (by kernel_rfl) Ybaf.func4 (by kernel_rfl)
    (of_decide_eq_true (by kernel_rfl)) (of_decide_eq_true (by kernel_rfl)) stopsAreC.symm rfl stopKnobsC.symm (by kernel_rfl)
    (by kernel_rfl) (by kernel_rfl) (by kernel_rfl) (by kernel_rfl) (by kernel_rfl) (by kernel_rfl) (by kernel_rfl) (by kernel_rfl) (by kernel_rfl) rfl (by kernel_rfl) rfl rfl
    rfl rfl
    rfl (by kernel_rfl) (by kernel_rfl) (by kernel_rfl) (by decide) (by kernel_rfl) lawS3122AChain_row_tie
    (OpenClaim.moreEntering_of (by kernel_rfl) (by kernel_rfl) (by kernel_rfl) (by kernel_rfl) (by kernel_rfl) (by kernel_rfl) (by kernel_rfl) (by kernel_rfl) (by kernel_rfl) (by kernel_rfl))
    ⟨_, WideRow.started_initial, quietOfC _⟩
    (fun os started _ H enc _ => chain_lifted os started H enc)

end Go.Proofs.YbulkblqcFmt
