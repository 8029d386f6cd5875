/-
  WHAT THE LISTED TABLE OF PAYLOAD TYPES GIVES THE WALKS, AND THE NAMED VARIABLE READ AGAIN BEHIND THE CALL. After the guide's Mapy and Balanced texts; the elements are structs of a string and a bool.
-/
import Derived.Test.YbulkblqcFmtRows
import Derived.Test.YbulkblqcFmtErrs
import Derived.ProofKit
import Derived.LaidMore
import Derived.OpenShut
import Derived.ChangeOld
import Derived.Maps.OwnSet
import Derived.Stop.Joined
import Derived.Deep.DeepWitnessRef
namespace Go.Proofs.YbulkblqcFmt
open Go.ChangeShapes Go.WideShapes Go.ChangeAt Go.WideMaps Go.WideElems Go.RowKit Go.Maps

theorem laidOut0 : laidOutB Ybaf.prog = true := by kernel_rfl
/-- The listed variable's name, off the row. -/
abbrev tabName : String := (Rows.lawS3122AModelSpec.vars).headD default
theorem gTab : Ybaf.prog.globalNamed tabName = some 1 := by kernel_rfl
theorem tTab : (Ybaf.prog.globals[1]?).map (·.type) = some 78 := by kernel_rfl
theorem law28 : Keyed Ybaf.prog 28 := int_keyed Ybaf.underlying28
theorem zero76 (w : World) : (zeroValue 76).run Ybaf.prog w = .ok (.agg #[.string ⟨#[]⟩, .bool false]) w := by kernel_rfl

section
variable {H : Type} {enc : TypeId × Value → H}

/-- An element of the table: a string and a bool. -/
theorem elem76 {W : World} {base : Nat} {sp : Nat → Bool} {held : Bool} {n : Nat} {v : Value} {z : DataW H × List MemPlace} (h : elemAt enc Ybaf.prog W base sp held n 76 v = some z) : ∃ (s : ByteArray) (k : Bool), v = .agg #[.string s, .bool k] := by
  unfold elemAt at h
  split at h
  · rename_i hf
    obtain ⟨y0, y1, m, rfl, hl, g0, g1⟩ := trod_struct2 Ybaf.underlying76 h
    obtain ⟨a, e0, rfl, _⟩ := DataW.trod_string Ybaf.underlying9 g0
    obtain ⟨b, e1, rfl⟩ := DataW.trod_bool Ybaf.underlying4 g1
    cases v <;> simp [Value.formed, Ybaf.underlying76] at hf
    rename_i cs
    obtain ⟨l⟩ := cs
    have ce : Ybaf.prog.cellsOf 76 = 2 := by kernel_rfl
    have c9 : Ybaf.prog.cellsOf 9 = 1 := by kernel_rfl
    have c4 : Ybaf.prog.cellsOf 4 = 1 := by kernel_rfl
    rw [ce] at hl
    simp [Value.cells] at hl e0 e1
    match l, hl with
    | [x0, x1], _ =>
      simp [c9, c4] at e0 e1
      exact ⟨a, b, by rw [e0, e1]⟩
  · cases h
end

/-- The datum holds just the assigned types. -/
theorem has_all : ∀ n : Nat, n < 256 → Maps.has (Rows.laid_example_com_keyaccord_keyaccord_pkg_wire_payloadTypes (H := Unit)) (.int .u8 (n : Int)) = assigned (n : Int) := by decide +kernel

theorem has_at (t : Int) (ht : (Lit.int .u8 t).wf = true) : Maps.has (Rows.laid_example_com_keyaccord_keyaccord_pkg_wire_payloadTypes (H := Unit)) (.int .u8 t) = assigned t := by
  obtain ⟨h0, h1⟩ := bounds_u8 ht
  obtain ⟨n, rfl⟩ := Int.eq_ofNat_of_zero_le h0
  exact has_all n (by omega)

/-- WHAT THE CONDITION GIVES THE WALKS. -/
theorem of_laid {W : World} (h : laidMetH Ybaf.prog Rows.lawS3122AModelRow.laid W) : ∃ bm, Tbl W.heap.size bm W := by
  have hp : laidMetH Ybaf.prog Rows.lawS3122AModelRow.laid W = laidMet Ybaf.prog Rows.lawS3122AModelRow.laid W := MakeChecks.laidMetH_plain _ _ _ (by kernel_rfl)
  rw [hp] at h
  obtain ⟨ps, ⟨g0, t0, cs0, f0, p0, q0, hg0, ht0, hv0, hd0, _, _⟩, _, _⟩ := h
  obtain rfl := Option.some.inj (gTab.symm.trans hg0)
  obtain rfl := Option.some.inj (tTab.symm.trans ht0)
  rcases open_map Ybaf.underlying78 hd0 with ⟨_, hx⟩ | ⟨bm, es, clock, m, rfl, hcs, hb, _, F, hx⟩
  · simp [Rows.laid_example_com_keyaccord_keyaccord_pkg_wire_payloadTypes] at hx
  simp only [Prod.mk.injEq] at hx
  have hcell : W.cell? ⟨1, 0, none⟩ = some (.map (some bm)) := by
    have := World.var?_cell hg0 hv0 0
    rw [Array.eq_one_of_toList hcs] at this
    simpa using this
  have hbm : bm < W.heap.size := lt_of_block hb
  have h1 : 1 < W.heap.size := World.block_lt_of_cell? W ⟨1, 0, none⟩ hcell
  refine ⟨bm, hcell, h1, hbm, Nat.le_refl _, fun wr hw t ht => ?_⟩
  rw [hb] at hw
  rcases Maps.fit_look true law28 Ybaf.underlying78 (zero76 wr) hw F (keyOf_int_mk Ybaf.underlying28 ht) with ⟨hrun, _, hat⟩ | ⟨e0, y, _, _, hrun, hRv, hat, _⟩
  · rw [← hx.1] at hat
    refine ⟨⟨#[]⟩, false, ?_⟩
    rw [hrun, ← has_at t ht, Maps.has_false_of_atKey hat]
    rfl
  · rw [← hx.1] at hat
    obtain ⟨s, k, hv⟩ := elem76 hRv
    refine ⟨s, k, ?_⟩
    rw [hrun, ← has_at t ht, Maps.has_true_of_atKey hat, hv]
    rfl

/-- The named variable reads as it did. -/
theorem vars_again {H : Type} {enc : TypeId × Value → H} {W W' : World} {gs : List (DataW H)} {q : List MemPlace} (hV : DataW.TrodVars enc Ybaf.prog W (fun _ => true) [tabName] gs q)
    (hB : Below W.heap.size W W') (hlt : ∀ x ∈ q, x.block < W.heap.size) (h1 : 1 < W.heap.size) :
    ∃ d, gs = [d] ∧ DataW.TrodVars enc Ybaf.prog W' (fun b => decide (b < W.heap.size)) [tabName] [d] q := by
  obtain ⟨g, t, cs, fuel, d, p', rfl, hg, ht, hvar, hd, rfl⟩ := trodVars_one hV
  obtain rfl := Option.some.inj (gTab.symm.trans hg)
  obtain rfl := Option.some.inj (tTab.symm.trans ht)
  have hcs1 : ∃ r, cs = #[.map r] := by
    rcases open_map Ybaf.underlying78 hd with ⟨hcs, _⟩ | ⟨bm, es, clock, m, hfu, hcs, _⟩
    · exact ⟨_, Array.eq_one_of_toList hcs⟩
    · exact ⟨_, Array.eq_one_of_toList hcs⟩
  obtain ⟨r, rfl⟩ := hcs1
  have hltv : ∀ x ∈ p', x.block < W.heap.size := fun x hx => hlt x (List.mem_append_right _ hx)
  obtain ⟨fuel', hd'⟩ := Below.trod laidOut0 (by kernel_rfl) (of_decide_eq_true (by kernel_rfl)) (v := .map r) (⟨fuel, by simpa [Value.cells] using hd⟩ : DataW.Trod enc Ybaf.prog W 0 (fun _ => true) true 78 (.map r) d p') hB hltv
  have hvar' : W'.var? Ybaf.prog tabName = some #[.map r] := by
    unfold World.var? at hvar ⊢
    simp only [hg, Option.bind_some] at hvar ⊢
    rw [hB.block 1 h1]
    exact hvar
  exact ⟨d, rfl, trodVars_mk1 hg ht hvar' (by simpa [Value.cells] using hd')⟩

/-- The door's own heap meets the condition: three closed facts. -/
theorem door_met (os : Os) (args : Array Value) : laidMetH Ybaf.prog Rows.lawS3122AModelRow.laid ((World.doorLaid Ybaf.prog 400 os).forCall (fun _ _ => 0) ⟨#[], args, []⟩).memory :=
  laidMetH_of_parts3 (fuel := 8) (laidMet_of_run' 8 (by kernel_rfl) (by kernel_rfl)) (by kernel_rfl) (by kernel_rfl)

end Go.Proofs.YbulkblqcFmt
