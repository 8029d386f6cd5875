/-
  A proof of 'Rows.LawS3119BExactSaid'. '[]byte(s)' lays a row with a mark, so the walk ends in 'Below', not in 'Grown': the frame's last line is turned to that.
-/
import Derived.Test.YbulkblomRows
import Derived.WalkKit
import Derived.ProofKit
import Derived.OpenShut
import Derived.ShutString
import Derived.ChangeOld
import Derived.Below
import Derived.Laws.IdiomStrings
import Derived.Deep.QuietTactic
import Derived.BigQuiet
namespace Go.Proofs.Ybulkblom.lawS3119BExact
open Go.ChangeShapes Go.WideShapes Go.ChangeAt Go.RowKit
open Go.ChangeMaps (open_string shut_string)
set_option linter.unusedVariables false      -- a walk need not use every 'w<i>' (that an integer argument fits its kind)

theorem own : ownKnob Yba.prog.godebug = none := by kernel_rfl

/-- The word that a byte is written as. -/
def word (a : Int) : List UInt8 := if a = 2 then [116, 114, 117, 101] else if a = 1 then [102, 97, 108, 115, 101] else [110, 117, 108, 108]

theorem want_any (a : Int) (w : World) :
    Calls Yba.prog 7 #[.int .u8 a] w fun e w' => e = .returned (.string ⟨(word a).toArray⟩) ∧ w' = w := by
  by_cases c1 : a = 2
  · subst c1
    go_enter Yba.func7, Yba.ntmps7
    go_wp2
    go_ret
    exact ⟨rfl, rfl⟩
  · by_cases c2 : a = 1
    · subst c2
      go_enter Yba.func7, Yba.ntmps7
      go_wp2
      go_ret
      exact ⟨rfl, rfl⟩
    · have hw : word a = [110, 117, 108, 108] := by simp [word, c1, c2]
      have d1 : (a == 2) = false := by simpa using c1
      have d2 : (a == 1) = false := by simpa using c2
      rw [hw]
      clear hw c1 c2
      go_enter Yba.func7, Yba.ntmps7
      go_wp2
      go_ret
      exact ⟨rfl, rfl⟩

/-- What MarshalJSON hands back: a new row that holds the word, and no error. -/
def Json (a : Int) (w : World) (e : Ending) (w' : World) : Prop :=
  ∃ cap, e = .returned (.tuple #[.slice (some ⟨w.heap.size, 0, none⟩) (word a).length cap, .nilIface]) ∧
    (∀ j (hj : j < (word a).length), w'.cell? ⟨w.heap.size, j, none⟩ = some (.int .u8 ((word a)[j].toNat : Int))) ∧ Below w.heap.size w w'

theorem json_mk (a : Int) (l : List UInt8) (hl : word a = l) (w : World) (cap : Nat) (fr : Nat × Nat) :
    Json a w (.returned (.tuple #[.slice (some ⟨w.heap.size, 0, none⟩) l.length cap, .nilIface])) (w.drew.alloc (.cells (bytesRow ⟨l.toArray⟩ cap) 5 fr)) := by
  subst hl
  refine ⟨cap, rfl, fun j hj => ?_, (Below.refl _ _).drew.alloc (Nat.le_refl _) _⟩
  have h := World.cell?_alloc_mark w.drew (bytesRow ⟨(word a).toArray⟩ cap) 5 fr j
  have h2 := bytesRow_at ⟨(word a).toArray⟩ cap j (by simpa using hj)
  simp only [List.getElem_toArray] at h2
  exact h.trans h2

theorem json_any (a : Int) (w : World) : Calls Yba.prog 6 #[.int .u8 a] w (Json a w) := by
  have kc := fun (w : World) (s : ByteArray) => run_bytes_of_string (P := Yba.prog) w 9 22 5 s Yba.underlying9 Yba.underlying22 Yba.underlying5
  by_cases c1 : a = 2
  · subst c1
    have hm := json_mk 2 [116, 114, 117, 101] rfl w
    have H : Hid (∀ cap fr, Json 2 w (.returned (.tuple #[.slice (some ⟨w.heap.size, 0, none⟩) 4 cap, .nilIface])) (w.drew.alloc (.cells (bytesRow ⟨#[116, 114, 117, 101]⟩ cap) 5 fr))) := hm
    clear hm
    go_enter Yba.func6, Yba.ntmps6
    go_wp2
    go_ret2
    exact H.out _ _
  · by_cases c2 : a = 1
    · subst c2
      have hm := json_mk 1 [102, 97, 108, 115, 101] rfl w
      have H : Hid (∀ cap fr, Json 1 w (.returned (.tuple #[.slice (some ⟨w.heap.size, 0, none⟩) 5 cap, .nilIface])) (w.drew.alloc (.cells (bytesRow ⟨#[102, 97, 108, 115, 101]⟩ cap) 5 fr))) := hm
      clear hm
      go_enter Yba.func6, Yba.ntmps6
      go_wp2
      go_ret2
      exact H.out _ _
    · have hw : word a = [110, 117, 108, 108] := by simp [word, c1, c2]
      have hm := json_mk a [110, 117, 108, 108] hw w
      have H : Hid (∀ cap fr, Json a w (.returned (.tuple #[.slice (some ⟨w.heap.size, 0, none⟩) 4 cap, .nilIface])) (w.drew.alloc (.cells (bytesRow ⟨#[110, 117, 108, 108]⟩ cap) 5 fr))) := hm
      have d1 : (a == 2) = false := by simpa using c1
      have d2 : (a == 1) = false := by simpa using c2
      clear hm hw c1 c2
      go_enter Yba.func6, Yba.ntmps6
      go_wp2
      go_ret2
      exact H.out _ _

theorem walk (a0 : Int) (w0 : (Lit.int .u8 a0).wf = true) (w : World) :
    Calls Yba.prog 3 #[.int .u8 a0] w fun e w' => e = .returned (.bool true) ∧ Below w.heap.size w w' := by
  go_enter Yba.func3, Yba.ntmps3
  go_wp2_with fail
  refine (json_any a0 _).mono ?_
  rintro e w1 ⟨cap, rfl, hc, hb⟩
  have kb := fun n => run_convert_bytes_back (P := Yba.prog) (w1.drewN n) 22 9 5 ⟨w.heap.size, 0, none⟩ cap (word a0) Yba.underlying22 Yba.underlying5 Yba.underlying9 (fun j hj => by rw [World.cell?_drewN, Addr.add_lit, Nat.zero_add]; exact hc j hj)
  clear hc
  go_wp2
  go_quiet ((go_at_call 7; exact Calls.quiet_of_same (want_any _ _)))
  go_wp2
  go_ret
  exact ⟨rfl, ⟨hb.os, hb.tape, hb.output, hb.size, hb.block⟩⟩

/-! ### THE ROW's STEP: WRITTEN OUT: LEAVE IT -/
set_option maxRecDepth 100000 in
theorem lifted (os : Os) (started : os.Started) (H : Type) (enc : TypeId × Value → H) :
    ReturnsInHanded {} Yba.checked os 3 .any (Rows.lawS3119BExactSpec.pre6 enc Yba.prog Yba.f3 Rows.lawS3119BExactRow.domain false) (Rows.lawS3119BExactSpec.post enc Yba.prog Yba.f3 false true false false) := by
  refine returnsInHanded_of_change (C := Yba.checked) own started (by kernel_rfl) Yba.func3
    (ChangeSpec.witness6 (enc := enc) (C := Yba.checked) false ⟨#[], #[.int .u8 0], []⟩ 8 (by kernel_rfl) (by kernel_rfl) (by kernel_rfl) (by kernel_rfl)) ?_
  intro W base args ds gs before hval0 hW hcnd _
  have hval : ∀ (j : Nat) t v, Yba.f3.params[j]? = some t → args[j]? = some v → Value.okWide Yba.prog W .any base t v := hval0
  have hW' := hW
  obtain ⟨p, q, hA0, hV, rfl, hfz, hnd⟩ := hW
  have hA : DataW.TrodAll enc Yba.prog W 0 (fun _ => true) true Yba.f3.params.toList args.toList ds p := hA0
  rw [Yba.params3] at hA hval
  obtain ⟨v0, vs0, d0, ds0, p0, q0, hargs, rfl, rfl, h0, r0⟩ := trodAll_cons hA
  obtain ⟨rfl, rfl, rfl⟩ := trodAll_nil r0
  obtain rfl : args = #[v0] := by cases args; simp_all
  obtain ⟨rfl, rfl⟩ := trodVars_none hV
  obtain ⟨a0, rfl, rfl, rfl, w0⟩ := open_int Yba.underlying5 (hval 0 5 v0 rfl rfl) h0
  clear hA0 hval0
  simp only [List.append_nil] at hW'
  refine (walk a0 w0 W).mono fun e W' ⟨he, bel⟩ => ?_
  subst he
  exact ⟨_, rfl, _, _, _, [], [], [], hW', trodAll_mk1 (shut_bool Yba.underlying4 _), (trodAll_cons_mk (shut_int Yba.underlying5 w0) trodAll_mk0), rfl, bel.frame _, fun h => by cases h⟩

theorem over : Rows.lawS3119BExactRow.holds Yba.pinned (OpenSpec.ofChange Rows.lawS3119BExactSpec) :=
  OpenClaim.holds_of_wide 3 Yba.f3 rfl rfl rfl rfl rfl rfl rfl ⟨rfl, rfl, rfl, rfl, rfl⟩ rfl rfl rfl rfl rfl (by kernel_rfl) Yba.func3 (by kernel_rfl)
    (of_decide_eq_true (by kernel_rfl)) (by unfold Func.isWrapper; first | (rw [if_pos (by decide +kernel)]; kernel_rfl) | (rw [if_neg (by decide +kernel)]; exact ⟨rfl, rfl⟩))
    (fun os started H enc _ => lifted os started H enc)

/-- THE STATEMENT -/
theorem proved : Rows.LawS3119BExactSaid :=
  over
end Go.Proofs.Ybulkblom.lawS3119BExact
