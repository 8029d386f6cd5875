/-
  THE PAYLOAD TYPES' TABLE, (PayloadType).String, valid, AND wire.Errorf AT EACH OF ITS CALLS: of fmt's text nothing is said but that it is a string.
-/
import Derived.Test.YbulkblqcFmtFacts
import Derived.WalkKit
import Derived.WalkSpells
import Derived.Below
namespace Go.Proofs.YbulkblqcFmt
open Go.RowKit Go.Extern.Stop Go.Stop Go.Extern

/-- The assigned payload types. -/
def assigned (t : Int) : Bool := decide ((1 ≤ t ∧ t ≤ 22) ∨ t = 130 ∨ t = 131)

/-- WHAT THE WALKS ARE TOLD OF THE TABLE: the variable's cell, and every look-up, wherever the map's block is as it was. All of it lies below block B. -/
def Tbl (B : Nat) (bm : Nat) (w : World) : Prop :=
  w.cell? ⟨1, 0, none⟩ = some (.map (some bm)) ∧ 1 < B ∧ bm < B ∧ B ≤ w.heap.size ∧
    ∀ wr : World, wr.heap[bm]? = w.heap[bm]? → ∀ t : Int, (Lit.int .u8 t).wf = true →
      ∃ (nm : ByteArray) (sk : Bool), (Instr.lookup 78 (.map (some bm)) (.int .u8 t) true).run Ybaf.prog wr = .ok (.tuple #[.agg #[.string nm, .bool sk], .bool (assigned t)]) wr

theorem Tbl.below {B bm : Nat} {w w' : World} (h : Tbl B bm w) (hb : Below B w w') : Tbl B bm w' := by
  obtain ⟨h1, h2, h3, h4, h5⟩ := h
  refine ⟨(hb.cell (p := ⟨1, 0, none⟩) h2).trans h1, h2, h3, Nat.le_trans h4 hb.size, fun wr hw => h5 wr ?_⟩
  rw [hw, hb.block bm h3]

theorem Tbl.look {B bm : Nat} {w : World} (h : Tbl B bm w) (t : Int) (ht : (Lit.int .u8 t).wf = true) :
    ∃ (nm : ByteArray) (sk : Bool), (Instr.lookup 78 (.map (some bm)) (.int .u8 t) true).run Ybaf.prog w = .ok (.tuple #[.agg #[.string nm, .bool sk], .bool (assigned t)]) w :=
  h.2.2.2.2 w rfl t ht

attribute [local go_sem] Ybaf.call20 Ybaf.guard Ybaf.fmt_p Ybaf.fmt_a Ybaf.fmt_b Ybaf.fmt_c Ybaf.fmt_d Ybaf.fmt_e Ybaf.fmt_f Ybaf.fmt_g Ybaf.act28_115 Ybaf.act28_100 Ybaf.op28_100 Ybaf.isString28 Ybaf.str28 Ybaf.act9_115 Ybaf.op9_115 Ybaf.act3_100 Ybaf.op3_100 Ybaf.act5_100 Ybaf.op5_100

theorem valid_any (B bm : Nat) (t : Int) (w : World) (hT : Tbl B bm w) (wt : (Lit.int .u8 t).wf = true) :
    Calls Ybaf.prog 14 #[.int .u8 t] w fun e w' => e = .returned (.bool (assigned t || t == 0)) ∧ Below w.heap.size w w' := by
  obtain ⟨nm, sk, hl⟩ := hT.look t wt
  have hc := hT.1
  have HT : Hid (Tbl B bm w) := hT
  clear hT wt
  cases ha : assigned t
  · rw [ha] at hl
    clear ha
    go_enter Ybaf.func14, Ybaf.ntmps14
    go_wp2
    go_ret
    exact ⟨by simp, (Below.refl _ _).alloc (Nat.le_refl _) _⟩
  · rw [ha] at hl
    clear ha
    go_enter Ybaf.func14, Ybaf.ntmps14
    go_wp2
    go_ret
    exact ⟨by simp, (Below.refl _ _).alloc (Nat.le_refl _) _⟩

theorem string_any (B bm : Nat) (t : Int) (w : World) (hT : Tbl B bm w) (wt : (Lit.int .u8 t).wf = true) :
    Calls Ybaf.prog 39 #[.int .u8 t] w fun e w' => (∃ s : ByteArray, e = .returned (.string s)) ∧ Below w.heap.size w w' := by
  obtain ⟨nm, sk, hl⟩ := hT.look t wt
  have hc := hT.1
  have HT : Hid (Tbl B bm w) := hT
  clear hT wt
  cases ha : assigned t
  · rw [ha] at hl
    clear ha
    go_enter Ybaf.func39, Ybaf.ntmps39
    go_wp2
    apply rows_value Ybaf.nextTurns
    case hr =>
      go_simp
      exact ⟨rfl, rfl⟩
    case h =>
      go_wp2
      go_ret
      exact ⟨⟨_, rfl⟩, (((Below.refl _ _).alloc (Nat.le_refl _) _).alloc (by simp) _).drew⟩
  · rw [ha] at hl
    clear ha
    go_enter Ybaf.func39, Ybaf.ntmps39
    go_wp2
    go_ret
    exact ⟨⟨_, rfl⟩, (Below.refl _ _).alloc (Nat.le_refl _) _⟩

/-- An error of event ev, made new. -/
def ErrOf (ev : ByteArray) (w : World) (e : Ending) (w' : World) : Prop :=
  ∃ g, e = .returned (.iface 61 (.pointer (some ⟨g, 0, none⟩))) ∧ w'.cell? ⟨g, 0, none⟩ = some (.string ev) ∧ Below w.heap.size w w'

theorem errOf_mk (ev tx : ByteArray) (w w3 : World) (hb : Below w.heap.size w w3) :
    ErrOf ev w (.returned (.iface 61 (.pointer (some ⟨w3.heap.size, 0, none⟩)))) (w3.alloc (.cells #[.string ev, .string tx] 64)).drew :=
  ⟨_, rfl, by simp, (hb.alloc hb.size _).drew⟩

set_option maxHeartbeats 400000 in
theorem errorf_a (ev : ByteArray) (s : ByteArray) (n : Int) (blk : Nat) (w : World) (c0 : w.cell? ⟨blk, 0, none⟩ = some (.iface 9 (.string s))) (c1 : w.cell? ⟨blk, 1, none⟩ = some (.iface 3 (.int .i64 n))) :
    Calls Ybaf.prog 15 #[.string ev, .string ⟨#[37, 115, 32, 99, 97, 114, 114, 105, 101, 115, 32, 109, 111, 114, 101, 32, 116, 104, 97, 110, 32, 37, 100, 32, 112, 97, 121, 108, 111, 97, 100, 115]⟩, .slice (some ⟨blk, 0, none⟩) 2 2] w (ErrOf ev w) := by
  go_enter Ybaf.func15, Ybaf.ntmps15
  go_wp2
  apply rows_value Ybaf.nextTurns
  case hr =>
    go_simp
    exact ⟨rfl, rfl⟩
  case h =>
    go_wp2
    go_ret
    exact errOf_mk _ _ _ _ (Below.refl _ _)

set_option maxHeartbeats 400000 in
theorem errorf_b (B bm : Nat) (ev : ByteArray) (t : Int) (s : ByteArray) (blk : Nat) (w : World) (hT : Tbl B bm w) (wt : (Lit.int .u8 t).wf = true) (c0 : w.cell? ⟨blk, 0, none⟩ = some (.iface 28 (.int .u8 t))) (c1 : w.cell? ⟨blk, 1, none⟩ = some (.iface 9 (.string s))) :
    Calls Ybaf.prog 15 #[.string ev, .string ⟨#[37, 115, 32, 112, 97, 121, 108, 111, 97, 100, 32, 104, 101, 97, 100, 101, 114, 32, 114, 117, 110, 115, 32, 112, 97, 115, 116, 32, 116, 104, 101, 32, 101, 110, 100, 32, 111, 102, 32, 116, 104, 101, 32, 37, 115]⟩, .slice (some ⟨blk, 0, none⟩) 2 2] w (ErrOf ev w) := by
  have HT : Hid (Tbl B bm w) := hT
  have hblk : blk < w.heap.size := World.block_lt_of_cell? w ⟨blk, 0, none⟩ c0
  clear hT
  go_enter Ybaf.func15, Ybaf.ntmps15
  go_wp2
  apply rows_call Ybaf.nextTurns
  case hr =>
    go_simp
    exact ⟨⟨rfl, rfl, rfl⟩, rfl⟩
  case hi => exact Ybaf.invokeString28 _ _
  case hc =>
    refine (string_any B bm t _ HT.out wt).mono fun e w3 ⟨⟨tx, he⟩, hx⟩ => ?_
    subst he
    have d0 : w3.cell? ⟨blk, 0, none⟩ = some (.iface 28 (.int .u8 t)) := (hx.cell (p := ⟨blk, 0, none⟩) hblk).trans c0
    have d1 : w3.cell? ⟨blk, 1, none⟩ = some (.iface 9 (.string s)) := (hx.cell (p := ⟨blk, 1, none⟩) hblk).trans c1
    have HX : Hid (Below w.heap.size w w3) := hx
    clear hx
    apply rows_value Ybaf.nextReturned
    case hr =>
      go_simp
      exact ⟨rfl, rfl⟩
    case h =>
      go_wp2
      go_ret
      exact errOf_mk _ _ _ _ HX.out

set_option maxHeartbeats 400000 in
theorem errorf_c (B bm : Nat) (ev : ByteArray) (t : Int) (u : Int) (blk : Nat) (w : World) (hT : Tbl B bm w) (wt : (Lit.int .u8 t).wf = true) (c0 : w.cell? ⟨blk, 0, none⟩ = some (.iface 28 (.int .u8 t))) (c1 : w.cell? ⟨blk, 1, none⟩ = some (.iface 28 (.int .u8 u))) :
    Calls Ybaf.prog 15 #[.string ev, .string ⟨#[37, 115, 32, 112, 97, 121, 108, 111, 97, 100, 32, 110, 97, 109, 101, 115, 32, 110, 101, 120, 116, 32, 112, 97, 121, 108, 111, 97, 100, 32, 37, 100]⟩, .slice (some ⟨blk, 0, none⟩) 2 2] w (ErrOf ev w) := by
  have HT : Hid (Tbl B bm w) := hT
  have hblk : blk < w.heap.size := World.block_lt_of_cell? w ⟨blk, 0, none⟩ c0
  clear hT
  go_enter Ybaf.func15, Ybaf.ntmps15
  go_wp2
  apply rows_call Ybaf.nextTurns
  case hr =>
    go_simp
    exact ⟨⟨rfl, rfl, rfl⟩, rfl⟩
  case hi => exact Ybaf.invokeString28 _ _
  case hc =>
    refine (string_any B bm t _ HT.out wt).mono fun e w3 ⟨⟨tx, he⟩, hx⟩ => ?_
    subst he
    have d0 : w3.cell? ⟨blk, 0, none⟩ = some (.iface 28 (.int .u8 t)) := (hx.cell (p := ⟨blk, 0, none⟩) hblk).trans c0
    have d1 : w3.cell? ⟨blk, 1, none⟩ = some (.iface 28 (.int .u8 u)) := (hx.cell (p := ⟨blk, 1, none⟩) hblk).trans c1
    have HX : Hid (Below w.heap.size w w3) := hx
    clear hx
    apply rows_value Ybaf.nextReturned
    case hr =>
      go_simp
      exact ⟨rfl, rfl⟩
    case h =>
      go_wp2
      go_ret
      exact errOf_mk _ _ _ _ HX.out

set_option maxHeartbeats 400000 in
theorem errorf_d (B bm : Nat) (ev : ByteArray) (t : Int) (u : Int) (blk : Nat) (w : World) (hT : Tbl B bm w) (wt : (Lit.int .u8 t).wf = true) (c0 : w.cell? ⟨blk, 0, none⟩ = some (.iface 28 (.int .u8 t))) (c1 : w.cell? ⟨blk, 1, none⟩ = some (.iface 5 (.int .u8 u))) :
    Calls Ybaf.prog 15 #[.string ev, .string ⟨#[37, 115, 32, 112, 97, 121, 108, 111, 97, 100, 32, 82, 69, 83, 69, 82, 86, 69, 68, 32, 105, 115, 32, 37, 100]⟩, .slice (some ⟨blk, 0, none⟩) 2 2] w (ErrOf ev w) := by
  have HT : Hid (Tbl B bm w) := hT
  have hblk : blk < w.heap.size := World.block_lt_of_cell? w ⟨blk, 0, none⟩ c0
  clear hT
  go_enter Ybaf.func15, Ybaf.ntmps15
  go_wp2
  apply rows_call Ybaf.nextTurns
  case hr =>
    go_simp
    exact ⟨⟨rfl, rfl, rfl⟩, rfl⟩
  case hi => exact Ybaf.invokeString28 _ _
  case hc =>
    refine (string_any B bm t _ HT.out wt).mono fun e w3 ⟨⟨tx, he⟩, hx⟩ => ?_
    subst he
    have d0 : w3.cell? ⟨blk, 0, none⟩ = some (.iface 28 (.int .u8 t)) := (hx.cell (p := ⟨blk, 0, none⟩) hblk).trans c0
    have d1 : w3.cell? ⟨blk, 1, none⟩ = some (.iface 5 (.int .u8 u)) := (hx.cell (p := ⟨blk, 1, none⟩) hblk).trans c1
    have HX : Hid (Below w.heap.size w w3) := hx
    clear hx
    apply rows_value Ybaf.nextReturned
    case hr =>
      go_simp
      exact ⟨rfl, rfl⟩
    case h =>
      go_wp2
      go_ret
      exact errOf_mk _ _ _ _ HX.out

set_option maxHeartbeats 400000 in
theorem errorf_e (B bm : Nat) (ev : ByteArray) (t : Int) (n : Int) (blk : Nat) (w : World) (hT : Tbl B bm w) (wt : (Lit.int .u8 t).wf = true) (c0 : w.cell? ⟨blk, 0, none⟩ = some (.iface 28 (.int .u8 t))) (c1 : w.cell? ⟨blk, 1, none⟩ = some (.iface 3 (.int .i64 n))) :
    Calls Ybaf.prog 15 #[.string ev, .string ⟨#[37, 115, 32, 112, 97, 121, 108, 111, 97, 100, 32, 108, 101, 110, 103, 116, 104, 32, 37, 100, 32, 105, 115, 32, 115, 104, 111, 114, 116, 101, 114, 32, 116, 104, 97, 110, 32, 105, 116, 115, 32, 104, 101, 97, 100, 101, 114]⟩, .slice (some ⟨blk, 0, none⟩) 2 2] w (ErrOf ev w) := by
  have HT : Hid (Tbl B bm w) := hT
  have hblk : blk < w.heap.size := World.block_lt_of_cell? w ⟨blk, 0, none⟩ c0
  clear hT
  go_enter Ybaf.func15, Ybaf.ntmps15
  go_wp2
  apply rows_call Ybaf.nextTurns
  case hr =>
    go_simp
    exact ⟨⟨rfl, rfl, rfl⟩, rfl⟩
  case hi => exact Ybaf.invokeString28 _ _
  case hc =>
    refine (string_any B bm t _ HT.out wt).mono fun e w3 ⟨⟨tx, he⟩, hx⟩ => ?_
    subst he
    have d0 : w3.cell? ⟨blk, 0, none⟩ = some (.iface 28 (.int .u8 t)) := (hx.cell (p := ⟨blk, 0, none⟩) hblk).trans c0
    have d1 : w3.cell? ⟨blk, 1, none⟩ = some (.iface 3 (.int .i64 n)) := (hx.cell (p := ⟨blk, 1, none⟩) hblk).trans c1
    have HX : Hid (Below w.heap.size w w3) := hx
    clear hx
    apply rows_value Ybaf.nextReturned
    case hr =>
      go_simp
      exact ⟨rfl, rfl⟩
    case h =>
      go_wp2
      go_ret
      exact errOf_mk _ _ _ _ HX.out

set_option maxHeartbeats 400000 in
theorem errorf_f (B bm : Nat) (ev : ByteArray) (t : Int) (n : Int) (s : ByteArray) (m : Int) (blk : Nat) (w : World) (hT : Tbl B bm w) (wt : (Lit.int .u8 t).wf = true) (c0 : w.cell? ⟨blk, 0, none⟩ = some (.iface 28 (.int .u8 t))) (c1 : w.cell? ⟨blk, 1, none⟩ = some (.iface 3 (.int .i64 n))) (c2 : w.cell? ⟨blk, 2, none⟩ = some (.iface 9 (.string s))) (c3 : w.cell? ⟨blk, 3, none⟩ = some (.iface 3 (.int .i64 m))) :
    Calls Ybaf.prog 15 #[.string ev, .string ⟨#[37, 115, 32, 112, 97, 121, 108, 111, 97, 100, 32, 108, 101, 110, 103, 116, 104, 32, 37, 100, 32, 114, 117, 110, 115, 32, 112, 97, 115, 116, 32, 116, 104, 101, 32, 101, 110, 100, 32, 111, 102, 32, 116, 104, 101, 32, 37, 115, 32, 40, 37, 100, 32, 111, 99, 116, 101, 116, 115, 32, 108, 101, 102, 116, 41]⟩, .slice (some ⟨blk, 0, none⟩) 4 4] w (ErrOf ev w) := by
  have HT : Hid (Tbl B bm w) := hT
  have hblk : blk < w.heap.size := World.block_lt_of_cell? w ⟨blk, 0, none⟩ c0
  clear hT
  go_enter Ybaf.func15, Ybaf.ntmps15
  go_wp2
  apply rows_call Ybaf.nextTurns
  case hr =>
    go_simp
    exact ⟨⟨rfl, rfl, rfl⟩, rfl⟩
  case hi => exact Ybaf.invokeString28 _ _
  case hc =>
    refine (string_any B bm t _ HT.out wt).mono fun e w3 ⟨⟨tx, he⟩, hx⟩ => ?_
    subst he
    have d0 : w3.cell? ⟨blk, 0, none⟩ = some (.iface 28 (.int .u8 t)) := (hx.cell (p := ⟨blk, 0, none⟩) hblk).trans c0
    have d1 : w3.cell? ⟨blk, 1, none⟩ = some (.iface 3 (.int .i64 n)) := (hx.cell (p := ⟨blk, 1, none⟩) hblk).trans c1
    have d2 : w3.cell? ⟨blk, 2, none⟩ = some (.iface 9 (.string s)) := (hx.cell (p := ⟨blk, 2, none⟩) hblk).trans c2
    have d3 : w3.cell? ⟨blk, 3, none⟩ = some (.iface 3 (.int .i64 m)) := (hx.cell (p := ⟨blk, 3, none⟩) hblk).trans c3
    have HX : Hid (Below w.heap.size w w3) := hx
    clear hx
    apply rows_value Ybaf.nextReturned
    case hr =>
      go_simp
      exact ⟨rfl, rfl⟩
    case h =>
      go_wp2
      go_ret
      exact errOf_mk _ _ _ _ HX.out

set_option maxHeartbeats 400000 in
theorem errorf_g (ev : ByteArray) (n : Int) (blk : Nat) (w : World) (c0 : w.cell? ⟨blk, 0, none⟩ = some (.iface 3 (.int .i64 n))) :
    Calls Ybaf.prog 15 #[.string ev, .string ⟨#[37, 100, 32, 111, 99, 116, 101, 116, 115, 32, 102, 111, 108, 108, 111, 119, 32, 116, 104, 101, 32, 108, 97, 115, 116, 32, 112, 97, 121, 108, 111, 97, 100]⟩, .slice (some ⟨blk, 0, none⟩) 1 1] w (ErrOf ev w) := by
  go_enter Ybaf.func15, Ybaf.ntmps15
  go_wp2
  apply rows_value Ybaf.nextTurns
  case hr =>
    go_simp
    exact ⟨rfl, rfl⟩
  case h =>
    go_wp2
    go_ret
    exact errOf_mk _ _ _ _ (Below.refl _ _)

end Go.Proofs.YbulkblqcFmt
