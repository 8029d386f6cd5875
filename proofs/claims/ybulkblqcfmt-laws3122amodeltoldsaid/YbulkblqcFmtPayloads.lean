/-
  (*Decoder).Payloads BY ITS CONTRACT, over decodeChain's.
-/
import Derived.Test.YbulkblqcFmtDecode
namespace Go.Proofs.YbulkblqcFmt
open Go.RowKit

/-- The decoder's storage: its first field holds a row of payloads of its own, behind block dk (the decoder's own block). -/
def Dec (dk : Nat) (w : World) : Prop :=
  ∃ vd n xs, w.cell? ⟨dk, 0, none⟩ = some vd ∧ w.frozen? ⟨dk, 0, none⟩ = false ∧ w.ownsRow 0 44 2 vd n xs ∧ ∀ g, vd.ownBlock = some g → dk < g

/-- What Payloads hands back. -/
def PayRes (R : Sum ByteArray (List (Int × Nat × Nat) × Nat)) (b off L : Nat) (e : Ending) (w' : World) : Prop :=
  (∀ ev, (R = .inl ev ∨ (ev = malformed ∧ ∃ l p, R = .inr (l, p) ∧ p < L)) → ∃ g, e = .returned (.tuple #[.slice none 0 0, .iface 61 (.pointer (some ⟨g, 0, none⟩))]) ∧ w'.cell? ⟨g, 0, none⟩ = some (.string ev)) ∧
  (∀ l p, R = .inr (l, p) → ¬ p < L → ∃ v xs, e = .returned (.tuple #[v, .nilIface]) ∧ w'.ownsRow 0 44 2 v l.length xs ∧ Pays b off l xs)

theorem run_slice_none (a : Option Addr) (n c : Nat) (ha : a = none ∨ ∃ g, a = some ⟨g, 0, none⟩) (w : World) :
    (Instr.slice 29 (.slice a n c) none (some (.int .i64 0)) none).run Ybaf.prog w = .ok (.slice a 0 c) w := by
  rw [run_slice_h (P := Ybaf.prog) w 29 a n c Ybaf.underlying29 .i64 0 (by omega) (by omega)]
  rcases ha with rfl | ⟨g, rfl⟩ <;> simp [go_sem, sliced, Addr.add]

theorem ownsRow_none {w : World} {v : Value} {n : Nat} {xs : List Value} (h : w.ownsRow 0 44 2 v n xs) :
    ∃ a c, v = .slice a n c ∧ (a = none ∨ ∃ g, a = some ⟨g, 0, none⟩) ∧ w.ownsRow 0 44 2 (.slice a 0 c) 0 [] := by
  rcases h.2 with ⟨rfl, rfl⟩ | ⟨g, cap, cur, rfl, hb, hg, hn, hc, hs, _⟩
  · exact ⟨_, _, rfl, .inl rfl, World.ownsRow_nil _ _ _ _⟩
  · exact ⟨_, _, rfl, .inr ⟨g, rfl⟩, by simp, .inr ⟨g, cap, cur, rfl, hb, hg, Nat.zero_le _, hc, hs, by simp⟩⟩

theorem ownBlock_any (a : Option Addr) (n c m d : Nat) : (Value.slice a n c).ownBlock = (Value.slice a m d).ownBlock := by cases a <;> rfl

theorem grown_setCell (w : World) (a : Addr) (v : Value) : w.grownBy (w.setCell a v) (some a.block) :=
  ⟨rfl, rfl, rfl, by simp [World.setCell], fun k _ hk => Below.heap_setCell _ _ _ _ (fun e => hk (by simp [e]))⟩

/-- The decoder's field, written. -/
theorem Dec.put {dk n : Nat} {w1 w3 : World} {v u : Value} {xs : List Value} (hc : w1.cell? ⟨dk, 0, none⟩ = some u) (hf : w1.frozen? ⟨dk, 0, none⟩ = false) (hown : w1.ownsRow 0 44 2 v n xs) (hbk : ∀ g, v.ownBlock = some g → dk < g)
    (hb : Below (w1.setCell ⟨dk, 0, none⟩ v).heap.size (w1.setCell ⟨dk, 0, none⟩ v) w3) : Dec dk w3 ∧ w3.ownsRow 0 44 2 v n xs := by
  have hdk : dk < (w1.setCell ⟨dk, 0, none⟩ v).heap.size := by
    have := World.block_lt_of_cell? w1 ⟨dk, 0, none⟩ hc
    simpa [World.setCell] using this
  have h1 : (w1.setCell ⟨dk, 0, none⟩ v).ownsRow 0 44 2 v n xs := hown.kept (grown_setCell w1 ⟨dk, 0, none⟩ v) (.inr (fun e => by have := hbk dk e; omega))
  have h2 : w3.ownsRow 0 44 2 v n xs := h1.kept (grown_of_below hb none) (by cases v.ownBlock <;> simp)
  refine ⟨⟨v, n, xs, ?_, ?_, h2, hbk⟩, h2⟩
  · rw [hb.cell (p := ⟨dk, 0, none⟩) hdk]
    exact World.cell?_setCell_same _ _ _ hc
  · rw [hb.frozen (p := ⟨dk, 0, none⟩) hdk, World.frozen?_setCell]
    exact hf

set_option maxHeartbeats 1000000 in
set_option maxRecDepth 100000 in
theorem payloads_full (dk bm : Nat) (R : Sum ByteArray (List (Int × Nat × Nat) × Nat)) (f : Nat → Int) (b off L : Nat) (a0 : Option Addr) (c0 : Nat) (t0 : Int) (w : World)
    (hR : R = rest f L 64 t0 0 []) (hL : L ≤ 2097152) (hLc : L ≤ c0) (ha : L = 0 ∨ a0 = some ⟨b, off, none⟩) (ht : 0 ≤ t0 ∧ t0 ≤ 255)
    (hf : ∀ i, i < L → 0 ≤ f i ∧ f i ≤ 255) (hO : Octets b off L f w) (hb : b < dk) (hT : Tbl dk bm w) (hD : Dec dk w) :
    Calls Ybaf.prog 7 #[.pointer (some ⟨dk, 0, none⟩), .int .u8 t0, .slice a0 L c0] w fun e w' =>
      PayRes R b off L e w' ∧ ((w.cell? ⟨dk, 0, none⟩ = some (.slice none 0 0) ∨ ∃ l p, R = .inr (l, p)) → Dec dk w') ∧ Below dk w w' ∧ (∀ ev, R = .inl ev → w'.cell? ⟨dk, 0, none⟩ = w.cell? ⟨dk, 0, none⟩) := by
  obtain ⟨vd, n, xs, hc, hfz, hown, hbk⟩ := hD
  obtain ⟨av, cv, rfl, hav, hown0⟩ := ownsRow_none hown
  have hsl := run_slice_none av n cv hav
  have hdk : dk < w.heap.size := World.block_lt_of_cell? w ⟨dk, 0, none⟩ hc
  have hcall := fun s => decode_any dk bm R f b off L a0 c0 t0 (.slice av 0 cv) w hR hL hLc ha ht hf hO hT hown0 (fun g hg => by have := hbk g ((ownBlock_any av n cv 0 cv).trans hg); omega) s
  have HC := hide hcall
  have HO := hide hO
  have HT := hide hT
  have HOWN := hide hown
  have HBK := hide hbk
  clear hcall hR hO hT hown hbk hown0 hf hav
  cases R with
  | inl ev =>
    go_enter Ybaf.func7, Ybaf.ntmps7
    go_wp2_with fail
    refine (HC.out _).mono ?_
    rintro e w1 ⟨g, rfl, hcg, hg1⟩
    have Hcg := hide hcg
    have Hg1 := hide hg1
    have Hc := hide hc
    have Hfz := hide hfz
    clear hcg hg1 hc hfz hsl
    go_wp2
    go_ret2
    have hlow : ∀ k, (Value.slice av 0 cv).ownBlock = some k → dk < k := fun k h => HBK.out k ((ownBlock_any av n cv 0 cv).trans h)
    have hne : some dk ≠ (Value.slice av 0 cv).ownBlock := fun e => by have := hlow dk e.symm; omega
    refine ⟨⟨fun ev' h => ?_, fun l p h => by cases h⟩, fun h => ?_, grown_below Hg1.out (Nat.le_of_lt hdk) (fun k h => by have := hlow k h; omega), fun _ _ => World.cell?_of_block (a := ⟨dk, 0, none⟩) (Hg1.out.block dk hdk hne)⟩
    · rcases h with h | ⟨_, l, p, h, _⟩
      · cases h
        exact ⟨g, rfl, Hcg.out⟩
      · cases h
    · rcases h with h | ⟨l, p, h⟩
      · have hn := Hc.out
        rw [h] at hn
        have hk := Hg1.out.block dk hdk hne
        refine ⟨.slice none 0 0, 0, [], (World.cell?_of_block (a := ⟨dk, 0, none⟩) hk).trans h, (World.frozen?_of_block (a := ⟨dk, 0, none⟩) hk).trans Hfz.out, World.ownsRow_nil _ _ _ _, fun g hg => by simp [Value.ownBlock] at hg⟩
      · cases h
  | inr lp =>
    obtain ⟨l, p⟩ := lp
    go_enter Ybaf.func7, Ybaf.ntmps7
    go_wp2_with fail
    refine (HC.out _).mono ?_
    rintro e w1 ⟨v, ys, a1, c1, rfl, hown1, hp1, hg1, hm1⟩
    have hlow : ∀ k, (Value.slice av 0 cv).ownBlock = some k → dk < k := fun k h => HBK.out k ((ownBlock_any av n cv 0 cv).trans h)
    have hne : some dk ≠ (Value.slice av 0 cv).ownBlock := fun e => by have := hlow dk e.symm; omega
    have hk1 := hg1.block dk hdk hne
    have hc1 : w1.cell? ⟨dk, 0, none⟩ = some (.slice av n cv) := (World.cell?_of_block (a := ⟨dk, 0, none⟩) hk1).trans hc
    have hf1 : w1.frozen? ⟨dk, 0, none⟩ = false := (World.frozen?_of_block (a := ⟨dk, 0, none⟩) hk1).trans hfz
    have hvk : ∀ k, v.ownBlock = some k → dk < k := fun k h => by
      rcases hm1 k h with h' | h'
      · exact hlow k h'
      · omega
    have hB1 : Below dk w w1 := grown_below hg1 (Nat.le_of_lt hdk) (fun k h => by have := hlow k h; omega)
    have hvs : ∃ a n c, v = .slice a n c := by
      rcases hown1.2 with ⟨h, _⟩ | ⟨g, cap, cur, h, _⟩ <;> exact ⟨_, _, _, h⟩
    obtain ⟨a2, n2, c2, rfl⟩ := hvs
    have Hown1 := hide hown1
    have Hp1 := hide hp1
    have Hvk := hide hvk
    have HB1 := hide hB1
    have Hc1 := hide hc1
    have Hf1 := hide hf1
    clear hown1 hp1 hg1 hm1 hlow hne hk1 hvk hB1 hc hfz hsl
    by_cases hpL : p < L
    · have hpL' : (0 : Int) < ((L - p : Nat) : Int) := by omega
      generalize hm : L - p = m at *
      clear hm
      go_wp2_with fail
      refine (errorf_g _ (m : Int) _ _ ?_).mono ?_
      · go_simp
      rintro e w3 ⟨g, rfl, hcg, hb3⟩
      have hb4 : Below (w1.setCell ⟨dk, 0, none⟩ (.slice a2 n2 c2)).heap.size (w1.setCell ⟨dk, 0, none⟩ (.slice a2 n2 c2)) w3 := ((Below.refl _ _).alloc (Nat.le_refl _) _).trans (hb3.mono (by simp))
      have Hcg : Hid (w3.cell? ⟨g, 0, none⟩ = some (.string malformed)) := hcg
      have Hb4 := hide hb4
      clear hcg hb3 hb4
      go_wp2
      go_ret2
      obtain ⟨hd, _⟩ := Dec.put Hc1.out Hf1.out Hown1.out Hvk.out Hb4.out
      refine ⟨⟨fun ev' h => ?_, fun l' p' h h' => ?_⟩, fun _ => hd, (HB1.out.setCell (p := ⟨dk, 0, none⟩) (Nat.le_refl _) _).trans (Hb4.out.mono (by have := HB1.out.size; simp [World.setCell]; omega)), fun _ h => by cases h⟩
      · rcases h with h | ⟨rfl, _⟩
        · cases h
        · exact ⟨g, rfl, Hcg.out⟩
      · cases h
        exact absurd hpL h'
    · generalize hm : L - p = m at *
      obtain rfl : m = 0 := by omega
      clear hm
      go_wp2
      go_ret2
      obtain ⟨hd, ho⟩ := Dec.put Hc1.out Hf1.out Hown1.out Hvk.out (Below.refl _ _)
      refine ⟨⟨fun ev' h => ?_, fun l' p' h h' => ?_⟩, fun _ => hd, HB1.out.setCell (p := ⟨dk, 0, none⟩) (Nat.le_refl _) _, fun _ h => by cases h⟩
      · rcases h with h | ⟨_, l', p', h, h'⟩
        · cases h
        · cases h
          exact absurd h' hpL
      · cases h
        exact ⟨_, ys, rfl, ho, Hp1.out⟩

theorem payloads_any (dk bm : Nat) (R : Sum ByteArray (List (Int × Nat × Nat) × Nat)) (f : Nat → Int) (b off L : Nat) (a0 : Option Addr) (c0 : Nat) (t0 : Int) (w : World)
    (hR : R = rest f L 64 t0 0 []) (hL : L ≤ 2097152) (hLc : L ≤ c0) (ha : L = 0 ∨ a0 = some ⟨b, off, none⟩) (ht : 0 ≤ t0 ∧ t0 ≤ 255)
    (hf : ∀ i, i < L → 0 ≤ f i ∧ f i ≤ 255) (hO : Octets b off L f w) (hb : b < dk) (hT : Tbl dk bm w) (hD : Dec dk w) :
    Calls Ybaf.prog 7 #[.pointer (some ⟨dk, 0, none⟩), .int .u8 t0, .slice a0 L c0] w fun e w' =>
      PayRes R b off L e w' ∧ ((w.cell? ⟨dk, 0, none⟩ = some (.slice none 0 0) ∨ ∃ l p, R = .inr (l, p)) → Dec dk w') ∧ Below dk w w' :=
  (payloads_full dk bm R f b off L a0 c0 t0 w hR hL hLc ha ht hf hO hb hT hD).mono fun _ _ ⟨h1, h2, h3, _⟩ => ⟨h1, h2, h3⟩

end Go.Proofs.YbulkblqcFmt
