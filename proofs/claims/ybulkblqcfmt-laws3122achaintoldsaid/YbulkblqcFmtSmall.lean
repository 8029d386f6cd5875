/-
  THE LAW's SMALL HELPERS: zzs3122avalid, zzs3122aevent, zzs3122aeq, zzs3122atype.
-/
import Derived.Test.YbulkblqcFmtErrs
import Derived.Deep.QuietTactic
import Derived.BigQuiet
namespace Go.Proofs.YbulkblqcFmt
open Go.RowKit

theorem avalid_any (t : Int) (w : World) (h0 : 0 ≤ t) :
    Calls Ybaf.prog 6 #[.int .u8 t] w fun e w' => e = .returned (.bool (assigned t || t == 0)) ∧ w' = w := by
  by_cases c1 : t ≤ 22
  · have hv : (assigned t || t == 0) = true := by simp [assigned]; omega
    rw [hv]
    clear hv
    go_enter Ybaf.func6, Ybaf.ntmps6
    go_wp2
    go_ret
    exact ⟨rfl, rfl⟩
  · by_cases c2 : t = 130
    · subst c2
      go_enter Ybaf.func6, Ybaf.ntmps6
      go_wp2
      go_ret
      exact ⟨rfl, rfl⟩
    · by_cases c3 : t = 131
      · subst c3
        go_enter Ybaf.func6, Ybaf.ntmps6
        go_wp2
        go_ret
        exact ⟨rfl, rfl⟩
      · have hv : (assigned t || t == 0) = false := by simp [assigned]; omega
        have d2 : (t == 130) = false := by simpa using c2
        have d3 : (t == 131) = false := by simpa using c3
        rw [hv]
        clear hv c2 c3
        go_enter Ybaf.func6, Ybaf.ntmps6
        go_wp2
        go_ret
        exact ⟨rfl, rfl⟩

theorem assert61 (v : Value) (w : World) : (Instr.typeAssert (.iface 61 v) 39 61 true).run Ybaf.prog w = .ok (.tuple #[v, .bool true]) w := by kernel_rfl

theorem event_of (g : Nat) (ev : ByteArray) (w : World) (h : w.cell? ⟨g, 0, none⟩ = some (.string ev)) :
    Calls Ybaf.prog 8 #[.iface 61 (.pointer (some ⟨g, 0, none⟩))] w fun e w' => e = .returned (.string ev) ∧ w' = w := by
  have ha := assert61
  go_enter Ybaf.func8, Ybaf.ntmps8
  go_wp2
  go_ret
  exact ⟨rfl, rfl⟩

/-- The payload type that an item's byte picks. -/
def ptype (x : Int) : Int := if x % 24 < 22 then x % 24 + 1 else 130 + x % 24 - 22

theorem ptype_assigned (x : Int) : assigned (ptype x) = true := by
  unfold ptype assigned
  split <;> simp <;> omega

theorem type_any (x : Int) (w : World) (h0 : 0 ≤ x) (h1 : x ≤ 255) :
    Calls Ybaf.prog 10 #[.int .u8 x] w fun e w' => e = .returned (.int .u8 (ptype x)) ∧ w' = w := by
  by_cases c : x % 24 < 22
  · have hp : ptype x = x % 24 + 1 := by simp [ptype, c]
    rw [hp]
    clear hp
    go_enter Ybaf.func10, Ybaf.ntmps10
    go_wp2
    go_ret
    exact ⟨rfl, rfl⟩
  · have hp : ptype x = 130 + x % 24 - 22 := by simp [ptype, c]
    rw [hp]
    clear hp
    go_enter Ybaf.func10, Ybaf.ntmps10
    go_wp2
    go_ret
    exact ⟨rfl, rfl⟩

set_option maxHeartbeats 400000 in
/-- Two slices of one length whose bytes agree. -/
theorem eq_some (b1 o1 b2 o2 n c1 c2 : Nat) (f : Nat → Int) (w : World) (hn : n ≤ 1048576)
    (h1 : ∀ i, i < n → w.cell? ⟨b1, o1 + i, none⟩ = some (.int .u8 (f i))) (h2 : ∀ i, i < n → w.cell? ⟨b2, o2 + i, none⟩ = some (.int .u8 (f i))) :
    Calls Ybaf.prog 9 #[.slice (some ⟨b1, o1, none⟩) n c1, .slice (some ⟨b2, o2, none⟩) n c2] w fun e w' => e = .returned (.bool true) ∧ ∃ m, w' = w.drewN m := by
  have H1 : Hid (∀ i, i < n → w.cell? ⟨b1, o1 + i, none⟩ = some (.int .u8 (f i))) := h1
  have H2 : Hid (∀ i, i < n → w.cell? ⟨b2, o2 + i, none⟩ = some (.int .u8 (f i))) := h2
  clear h1 h2
  go_enter Ybaf.func9, Ybaf.ntmps9
  go_wp2
  go_loopw [5] (fun i wq => ∃ j m : Nat, j ≤ n ∧ i = .int .i64 j ∧ wq = w.drewN m) (fun i _ => n - (intOf i).toNat)
  case atStart => exact ⟨0, 0, Nat.zero_le _, rfl, rfl⟩
  case round =>
    obtain ⟨j, m, hj, rfl, rfl⟩ := hrel
    by_cases hlt : j < n
    · have e1 := H1.out j hlt
      have e2 := H2.out j hlt
      go_wp2_with fail
      go_quiet (fail)
      go_wp2
      go_roundw
      case rel => exact ⟨j + 1, _, by omega, by go_num, rfl⟩
      case measure => simp [intOf]; omega
    · go_wp2
      go_ret
      exact ⟨rfl, _, rfl⟩

theorem eq_none (a1 a2 : Option Addr) (c1 c2 : Nat) (w : World) :
    Calls Ybaf.prog 9 #[.slice a1 0 c1, .slice a2 0 c2] w fun e w' => e = .returned (.bool true) ∧ ∃ m, w' = w.drewN m := by
  go_enter Ybaf.func9, Ybaf.ntmps9
  go_wp2
  refine wp_loop_rounds 1 ?_
  rw [rounds_succ]
  go_wp2
  go_ret
  exact ⟨rfl, 0, rfl⟩

end Go.Proofs.YbulkblqcFmt
