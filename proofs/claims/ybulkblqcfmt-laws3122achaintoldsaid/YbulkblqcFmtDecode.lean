/-
  wire.decodeChain AND (*Decoder).Payloads BY THEIR CONTRACTS: they compute the plain parser.
-/
import Derived.Test.YbulkblqcFmtParse
import Derived.Test.YbulkblqcFmtOwn
import Derived.Test.YbulkblqcFmtShelf
import Derived.RegionTactic
import Derived.Deep.RegionWith
import Derived.BigRegion
namespace Go.Proofs.YbulkblqcFmt
open Go.RowKit

/-- A slice of n octets that begins at octet p of the body (its address is open where it is empty). -/
def IsSl (b off p n : Nat) (v : Value) : Prop := ∃ a c, v = .slice a n c ∧ (n = 0 ∨ a = some ⟨b, off + p, none⟩)

/-- The cells of a row of payloads. -/
def Pays (b off : Nat) (l : List (Int × Nat × Nat)) (xs : List Value) : Prop :=
  ∀ i (h : i < l.length), xs[2 * i]? = some (.int .u8 l[i].1) ∧ ∃ vb, xs[2 * i + 1]? = some vb ∧ IsSl b off l[i].2.1 (l[i].2.2 - l[i].2.1) vb

theorem Pays.nil (b off : Nat) (xs : List Value) : Pays b off [] xs := fun _ h => absurd h (Nat.not_lt_zero _)

theorem Pays.snoc {b off : Nat} {l : List (Int × Nat × Nat)} {xs : List Value} (h : Pays b off l xs) (hl : xs.length = l.length * 2) (t : Int) (s e : Nat) (vb : Value) (hv : IsSl b off s (e - s) vb) :
    Pays b off (l ++ [(t, s, e)]) (xs ++ [.int .u8 t, vb]) := by
  intro i hi
  by_cases h' : i < l.length
  · obtain ⟨h1, w, h2, h3⟩ := h i h'
    rw [List.getElem_append_left h']
    refine ⟨by rw [List.getElem?_append_left (by omega)]; exact h1, w, by rw [List.getElem?_append_left (by omega)]; exact h2, h3⟩
  · have e1 : i = l.length := by simp at hi; omega
    subst e1
    rw [List.getElem_append_right (Nat.le_refl _)]
    refine ⟨by rw [List.getElem?_append_right (by omega)]; simp [hl, Nat.mul_comm], vb, by rw [List.getElem?_append_right (by omega)]; simp [hl, Nat.mul_comm], by simpa using hv⟩

def sliceLen : Value → Nat | .slice _ n _ => n | _ => 0

theorem info44 : (Ybaf.prog.info? 44).map (fun i => (i.zero, i.size, i.bytes)) = some (some (.agg #[.int .u8 0, .slice none 0 0]), 2, 32) := by kernel_rfl

theorem info_parts44 : ∃ i0, Ybaf.prog.info? 44 = some i0 ∧ i0.zero = some (.agg #[.int .u8 0, .slice none 0 0]) ∧ i0.size = 2 ∧ i0.bytes = 32 := by
  obtain ⟨i0, h, he⟩ := Option.map_eq_some_iff.1 info44
  simp only [Prod.mk.injEq] at he
  exact ⟨i0, h, he.1, he.2.1, he.2.2⟩

theorem slice_lh (b o len cap lo hi : Nat) (h1 : lo ≤ hi) (h2 : hi ≤ cap) :
    ∃ a, (∀ w, (Instr.slice 22 (.slice (some ⟨b, o, none⟩) len cap) (some (.int .i64 (lo : Int))) (some (.int .i64 (hi : Int))) none).run Ybaf.prog w = .ok (.slice a (hi - lo) (cap - lo)) w) ∧ (hi - lo = 0 ∨ a = some ⟨b, o + lo, none⟩) := by
  have hr := fun w => run_slice_lh (P := Ybaf.prog) w 22 (some ⟨b, o, none⟩) len cap Ybaf.underlying22 .i64 .i64 (lo : Int) (hi : Int) (by omega) (by omega) (by omega)
  refine ⟨if cap = lo then some ⟨b, o, none⟩ else some ⟨b, o + lo, none⟩, fun w => ?_, ?_⟩
  · rw [hr w]
    simp [go_sem, sliced]
  · by_cases h : cap = lo
    · exact .inl (by omega)
    · exact .inr (by rw [if_neg h])

theorem slice_4h (b o len cap hi : Nat) (h1 : 4 ≤ hi) (h2 : hi ≤ cap) :
    ∃ a, (∀ w, (Instr.slice 22 (.slice (some ⟨b, o, none⟩) len cap) (some (.int .i64 4)) (some (.int .i64 (hi : Int))) none).run Ybaf.prog w = .ok (.slice a (hi - 4) (cap - 4)) w) ∧ (hi - 4 = 0 ∨ a = some ⟨b, o + 4, none⟩) :=
  slice_lh b o len cap 4 hi h1 h2

theorem slice_l (b o len cap lo : Nat) (h1 : lo ≤ len) (h2 : len ≤ cap) :
    ∃ a, (∀ w, (Instr.slice 22 (.slice (some ⟨b, o, none⟩) len cap) (some (.int .i64 (lo : Int))) none none).run Ybaf.prog w = .ok (.slice a (len - lo) (cap - lo)) w) ∧ (len - lo = 0 ∨ a = some ⟨b, o + lo, none⟩) := by
  have hr := fun w => run_slice_l (P := Ybaf.prog) w 22 (some ⟨b, o, none⟩) len cap Ybaf.underlying22 .i64 (lo : Int) (by omega) (by omega)
  refine ⟨if cap = lo then some ⟨b, o, none⟩ else some ⟨b, o + lo, none⟩, fun w => ?_, ?_⟩
  · rw [hr w]
    simp [go_sem, sliced]
  · by_cases h : cap = lo
    · exact .inl (by omega)
    · exact .inr (by rw [if_neg h])

/-- How decodeChain ends. -/
def Decoded (r : Sum ByteArray (List (Int × Nat × Nat) × Nat)) (b off L : Nat) (v0 : Value) (w : World) (e : Ending) (w' : World) : Prop :=
  match r with
  | .inl ev => ∃ g, e = .returned (.tuple #[.slice none 0 0, .slice none 0 0, .iface 61 (.pointer (some ⟨g, 0, none⟩))]) ∧ w'.cell? ⟨g, 0, none⟩ = some (.string ev) ∧ w.grownBy w' v0.ownBlock
  | .inr (l, p) => ∃ v xs a c, e = .returned (.tuple #[v, .slice a (L - p) c, .nilIface]) ∧ w'.ownsRow 0 44 2 v l.length xs ∧ Pays b off l xs ∧ w.grownBy w' v0.ownBlock ∧ Moved w v0 v

theorem uint16_of (a : Addr) (n c : Nat) (x y : Int) (w : World) (hn : 2 ≤ n) (c0 : w.cell? a = some (.int .u8 x)) (c1 : w.cell? (a.add 1) = some (.int .u8 y)) (hx : (Lit.int .u8 x).wf = true) (hy : (Lit.int .u8 y).wf = true) :
    Calls Ybaf.prog 19 #[.agg #[], .slice (some a) n c] w fun e w' => e = .returned (.int .u16 (x * 256 + y)) ∧ Below w.heap.size w w' := by
  have h := Ybaf.binary_BE_Uint16_z a n c [x, y] w hn (by simp) (fun i hi => by
    match i, hi with
    | 0, _ => simpa [Addr.add] using c0
    | 1, _ => simpa using c1) (by intro z hz; simp at hz; rcases hz with rfl | rfl <;> assumption)
  have e : (Lib.beZ (([x, y] : List Int).take 2)) = x * 256 + y := by simp [Lib.beZ, Lib.beFromZ]
  rw [e] at h
  exact h

/-- What is known of the body's octets in a world. -/
def Octets (b off L : Nat) (f : Nat → Int) (w : World) : Prop := b < w.heap.size ∧ ∀ i, i < L → w.cell? ⟨b, off + i, none⟩ = some (.int .u8 (f i))

theorem Octets.grown {b off L : Nat} {f : Nat → Int} {w w' : World} {r : Option Nat} (h : Octets b off L f w) (hg : w.grownBy w' r) (hr : r ≠ some b) : Octets b off L f w' :=
  ⟨Nat.lt_of_lt_of_le h.1 hg.size, fun i hi => (World.cell?_of_block (a := ⟨b, off + i, none⟩) (hg.block b h.1 (fun e => hr e.symm))).trans (h.2 i hi)⟩

/-- decodeChain's loop: what holds at a round's head. -/
def Rnd (R : Sum ByteArray (List (Int × Nat × Nat) × Nat)) (f : Nat → Int) (b off L : Nat) (vps : Value) (w : World) (v0 v2 v16 : Value) (wr : World) : Prop :=
  ∃ (k p : Nat) (t : Int) (l : List (Int × Nat × Nat)) (xs : List Value) (a : Option Addr) (c : Nat),
    v16 = .int .u8 t ∧ v2 = .slice a (L - p) c ∧ L - p ≤ c ∧ (L - p < 4 ∨ a = some ⟨b, off + p, none⟩) ∧ p ≤ L ∧ k ≤ 64 ∧ l.length = k ∧
    R = rest f L (64 - k) t p l ∧ (0 ≤ t ∧ t ≤ 255) ∧ wr.ownsRow 0 44 2 v0 k xs ∧ Pays b off l xs ∧ w.grownBy wr vps.ownBlock ∧ Moved w vps v0

theorem rnd_next {R : Sum ByteArray (List (Int × Nat × Nat) × Nat)} {f : Nat → Int} {b off L k p N m c cb : Nat} {vps v0 v' : Value} {w wr w2 w4 : World} {t nx : Int} {l : List (Int × Nat × Nat)} {xs : List Value} {ab a2 : Option Addr} {o : Obj}
    (hR : R = rest f L (64 - k - 1) nx (p + N) (l ++ [(t, p + 4, p + N)])) (hk : k < 64) (hkl : l.length = k) (hm : L - p = m) (hN4 : 4 ≤ N) (hNm : N ≤ m)
    (hab : N - 4 = 0 ∨ ab = some ⟨b, off + p + 4, none⟩) (ha2 : m - N = 0 ∨ a2 = some ⟨b, off + p + N, none⟩) (hmc : m ≤ c) (hnx : 0 ≤ nx ∧ nx ≤ 255)
    (hown : wr.ownsRow 0 44 2 v0 k xs) (hpays : Pays b off l xs) (hg : w.grownBy wr vps.ownBlock) (hmv : Moved w vps v0) (hb : Below wr.heap.size wr w2)
    (hown4 : w4.ownsRow 0 44 2 v' (k + 1) (xs ++ [.int .u8 t, .slice ab (N - 4) cb])) (hg4 : (w2.alloc o).grownBy w4 v0.ownBlock) (hm4 : Moved (w2.alloc o) v0 v') :
    Rnd R f b off L vps w v' (.slice a2 (m - N) (c - N)) (.int .u8 nx) w4 := by
  have hsz : wr.heap.size ≤ (w2.alloc o).heap.size := by have := hb.size; simp; omega
  have hbel : Below wr.heap.size wr (w2.alloc o) := hb.alloc hb.size o
  have e1 : L - (p + N) = m - N := by omega
  refine ⟨k + 1, p + N, nx, l ++ [(t, p + 4, p + N)], xs ++ [.int .u8 t, .slice ab (N - 4) cb], a2, c - N, rfl, by rw [e1], by omega, ?_, by omega, by omega, by simp [hkl], ?_, hnx, hown4, ?_, ?_, ?_⟩
  · rcases ha2 with h | h
    · exact .inl (by omega)
    · exact .inr (by rw [h, Nat.add_assoc])
  · rw [hR]; congr 1
  · refine hpays.snoc (by rw [hown.1, hkl]) t (p + 4) (p + N) _ ⟨ab, cb, by congr 1; omega, ?_⟩
    rcases hab with h | h
    · exact .inl (by omega)
    · exact .inr (by rw [h, Nat.add_assoc])
  · refine grown_trans hg (grown_trans (grown_of_below hbel v0.ownBlock) hg4 (fun k h => .inl h)) (fun k h => ?_)
    exact hmv k h
  · intro g hg'
    rcases hm4 g hg' with h | h
    · exact hmv g h
    · exact .inr (by have := hg.size; omega)

theorem dec_done {R : Sum ByteArray (List (Int × Nat × Nat) × Nat)} {b off L p : Nat} {l : List (Int × Nat × Nat)} {xs : List Value} {v0 vps v : Value} {w wr : World} {a : Option Addr} {c k : Nat} (hv : vps = v0) (hR : R = .inr (l, p)) (hkl : l.length = k)
    (hown : wr.ownsRow 0 44 2 v k xs) (hpays : Pays b off l xs) (hg : w.grownBy wr vps.ownBlock) (hmv : Moved w vps v) :
    Decoded R b off L v0 w (.returned (.tuple #[v, .slice a (L - p) c, .nilIface])) wr := by
  subst hv hR hkl
  exact ⟨v, xs, a, c, rfl, hown, hpays, hg, hmv⟩

theorem dec_err {R : Sum ByteArray (List (Int × Nat × Nat) × Nat)} {b off L g : Nat} {v0 vps : Value} {w wr w3 : World} {ev : ByteArray} (hv : vps = v0) (hR : R = .inl ev) (hc : w3.cell? ⟨g, 0, none⟩ = some (.string ev))
    (hg : w.grownBy wr vps.ownBlock) (hb : Below wr.heap.size wr w3) :
    Decoded R b off L v0 w (.returned (.tuple #[.slice none 0 0, .slice none 0 0, .iface 61 (.pointer (some ⟨g, 0, none⟩))])) w3 := by
  subst hv hR
  exact ⟨g, rfl, hc, grown_trans hg (grown_of_below hb none) (fun k h => by cases h)⟩

set_option maxHeartbeats 1000000 in
set_option maxRecDepth 100000 in
theorem decode_any (B bm : Nat) (R : Sum ByteArray (List (Int × Nat × Nat) × Nat)) (f : Nat → Int) (b off L : Nat) (a0 : Option Addr) (c0 : Nat) (t0 : Int) (vps : Value) (w : World)
    (hR : R = rest f L 64 t0 0 []) (_hL : L ≤ 2097152) (hLc : L ≤ c0) (ha : L = 0 ∨ a0 = some ⟨b, off, none⟩) (ht : 0 ≤ t0 ∧ t0 ≤ 255)
    (hf : ∀ i, i < L → 0 ≤ f i ∧ f i ≤ 255) (hO : Octets b off L f w) (hT : Tbl B bm w) (hps : w.ownsRow 0 44 2 vps 0 []) (hpb : ∀ g, vps.ownBlock = some g → B ≤ g ∧ g ≠ b)
    (s : ByteArray) :
    Calls Ybaf.prog 13 #[vps, .int .u8 t0, .slice a0 L c0, .string s, .func (.func 14) #[] #[], .int .i64 64] w (Decoded R b off L vps w) := by
  have HP : Hid (w.ownsRow 0 44 2 vps 0 []) := hps
  have HB : Hid (∀ g, vps.ownBlock = some g → B ≤ g ∧ g ≠ b) := hpb
  have HO : Hid (Octets b off L f w) := hO
  have HT : Hid (Tbl B bm w) := hT
  have HR : Hid (R = rest f L 64 t0 0 []) := hR
  have HF : Hid (∀ i, i < L → 0 ≤ f i ∧ f i ≤ 255) := hf
  obtain ⟨av, cv, hv⟩ : ∃ av cv, vps = .slice av 0 cv := by
    rcases hps.2 with ⟨h, _⟩ | ⟨g, cap, cur, h, _⟩
    · exact ⟨_, _, h⟩
    · exact ⟨_, _, h⟩
  clear hps hpb hO hT hR hf
  have HV : Hid (vps = .slice av 0 cv) := hv
  rw [hv]
  clear hv
  go_enter Ybaf.func13, Ybaf.ntmps13
  go_wp2
  go_loopw [0, 2, 16] (fun v0 v2 v16 wr => Rnd R f b off L vps w v0 v2 v16 wr) (fun _ v2 _ _ => sliceLen v2)
  case atStart =>
    refine ⟨0, 0, t0, [], [], a0, c0, rfl, rfl, by omega, by rcases ha with h | h; exact .inl (by omega); exact .inr (by simpa using h), Nat.zero_le _, by omega, rfl, HR.out, ht, ?_, Pays.nil _ _ _, grown_refl _ _, ?_⟩
    · rw [← HV.out]; exact HP.out
    · rw [← HV.out]; exact Moved.refl _ _
  case round =>
    obtain ⟨k, p, t, l, xs, a, c, rfl, rfl, hc, haa, hp, hk, hkl, hr, ht', hown, hpays, hg, hmv⟩ := hrel
    have hTr : Tbl B bm wr := HT.out.below (grown_below hg HT.out.2.2.2.1 (fun g hg' => (HB.out g hg').1))
    have hOr : Octets b off L f wr := HO.out.grown hg (fun e => (HB.out b e).2 rfl)
    obtain ⟨au, cu, rfl⟩ : ∃ au cu, u0 = .slice au k cu := by
      rcases hown.2 with ⟨h, h'⟩ | ⟨g, cap, cur, h, _⟩
      · exact ⟨none, 0, by rw [h, h']⟩
      · exact ⟨_, _, h⟩
    have HTr : Hid (Tbl B bm wr) := hTr
    have HOr : Hid (Octets b off L f wr) := hOr
    have Hr : Hid (R = rest f L (64 - k) t p l) := hr
    have Hown : Hid (wr.ownsRow 0 44 2 (.slice au k cu) k xs) := hown
    have Hpays : Hid (Pays b off l xs) := hpays
    have Hg : Hid (w.grownBy wr vps.ownBlock) := hg
    have Hmv : Hid (Moved w vps (.slice au k cu)) := hmv
    have Hkl : Hid (l.length = k) := hkl
    obtain ⟨t1, t2⟩ := ht'
    clear hTr hOr hr hown hpays hg hmv hkl
    by_cases hz : t = 0
    · have hR := Hr.out
      rw [rest_zero hz] at hR
      subst hz
      have HR2 : Hid (R = .inr (l, p)) := hR
      clear hR
      go_wp2
      go_ret3
      exact dec_done HV.out HR2.out Hkl.out Hown.out Hpays.out Hg.out Hmv.out
    · have hz' : (t == 0) = false := by simpa using hz
      have Hz : Hid (t ≠ 0) := hz
      clear hz
      have wt : (Lit.int .u8 t).wf = true := WalkArith.wf_u8 ⟨t1, t2⟩
      by_cases hk4 : k = 64
      · subst hk4
        have hR := Hr.out
        rw [Nat.sub_self, rest_full Hz.out] at hR
        have HR2 : Hid (R = .inl malformed) := hR
        clear hR
        go_wp2_with fail
        refine (errorf_a _ s 64 _ _ (by simp) (by simp)).mono ?_
        rintro e w3 ⟨g, rfl, hcg, hb3⟩
        have HC3 : Hid (w3.cell? ⟨g, 0, none⟩ = some (.string malformed)) := hcg
        have HB3 : Hid (Below wr.heap.size wr w3) := ((Below.refl _ _).alloc (Nat.le_refl _) _).trans (hb3.mono (by simp))
        clear hcg hb3
        go_wp2
        go_ret3
        exact dec_err HV.out HR2.out HC3.out Hg.out HB3.out
      · have hk5 : ((k : Int) == 64) = false := by simp; omega
        have hk6 : k < 64 := by omega
        clear hk4
        generalize hm : L - p = m at *
        have Hm : Hid (L - p = m) := hm
        clear hm
        by_cases hm4 : m < 4
        · have hR := Hr.out
          rw [rest_err Hz.out (hdr_short (by rw [Hm.out]; exact hm4)) (by omega)] at hR
          have HR2 : Hid (R = .inl malformed) := hR
          clear hR
          go_wp2_with fail
          refine (errorf_b B bm _ t s _ _ ?_ wt (by simp) (by simp)).mono ?_
          · exact HTr.out.below ((Below.refl _ _).alloc HTr.out.2.2.2.1 _)
          rintro e w3 ⟨g, rfl, hcg, hb3⟩
          have HC3 : Hid (w3.cell? ⟨g, 0, none⟩ = some (.string malformed)) := hcg
          have HB3 : Hid (Below wr.heap.size wr w3) := ((Below.refl _ _).alloc (Nat.le_refl _) _).trans (hb3.mono (by simp))
          clear hcg hb3
          go_wp2
          go_ret3
          exact dec_err HV.out HR2.out HC3.out Hg.out HB3.out
        · obtain rfl : a = some ⟨b, off + p, none⟩ := haa.resolve_left hm4
          have hpL : p + 4 ≤ L := by have := Hm.out; omega
          obtain ⟨f0, f0'⟩ := HF.out p (by omega)
          obtain ⟨f1, f1'⟩ := HF.out (p + 1) (by omega)
          obtain ⟨f2, f2'⟩ := HF.out (p + 2) (by omega)
          obtain ⟨f3, f3'⟩ := HF.out (p + 3) (by omega)
          have w0 : (Lit.int .u8 (f p)).wf = true := WalkArith.wf_u8 ⟨f0, f0'⟩
          have w2 : (Lit.int .u8 (f (p + 2))).wf = true := WalkArith.wf_u8 ⟨f2, f2'⟩
          have w3 : (Lit.int .u8 (f (p + 3))).wf = true := WalkArith.wf_u8 ⟨f3, f3'⟩
          have e0 : wr.cell? ⟨b, off + p, none⟩ = some (.int .u8 (f p)) := HOr.out.2 p (by omega)
          have e1 : wr.cell? ⟨b, off + p + 1, none⟩ = some (.int .u8 (f (p + 1))) := HOr.out.2 (p + 1) (by omega)
          have hb : b < wr.heap.size := HOr.out.1
          have hva := valid_any B bm (f p) wr HTr.out w0
          clear haa
          cases hvv : (assigned (f p) || f p == 0)
          · rw [hvv] at hva
            have hR := Hr.out
            rw [rest_err Hz.out (hdr_next (by rw [Hm.out]; exact hm4) hvv) (by omega)] at hR
            have HR2 : Hid (R = .inl badNext) := hR
            have HVA := hide hva
            clear hR hvv hva
            generalize f p = x0 at *
            go_wp2_with fail
            refine HVA.out.mono ?_
            rintro e w1 ⟨rfl, hb1⟩
            have HB1 : Hid (Below wr.heap.size wr w1) := hb1
            clear hb1 HVA
            go_wp2_with fail
            refine (errorf_c B bm _ t x0 _ _ ?_ wt (by simp) (by simp)).mono ?_
            · exact (HTr.out.below (HB1.out.mono HTr.out.2.2.2.1)).below ((Below.refl _ _).alloc (Nat.le_trans HTr.out.2.2.2.1 HB1.out.size) _)
            rintro e w3 ⟨g, rfl, hcg, hb3⟩
            have HC3 : Hid (w3.cell? ⟨g, 0, none⟩ = some (.string badNext)) := hcg
            have HB3 : Hid (Below wr.heap.size wr w3) := (HB1.out.alloc HB1.out.size _).trans (hb3.mono (by have := HB1.out.size; simp; omega))
            clear hcg hb3
            go_wp2
            go_ret3
            exact dec_err HV.out HR2.out HC3.out Hg.out HB3.out
          · rw [hvv] at hva
            have HVA := hide hva
            have Hvv := hide hvv
            clear hva hvv
            by_cases hr1 : f (p + 1) = 0
            · rw [hr1] at e1
              have Hr1 := hide hr1
              clear hr1
              have hpe : off + (p + 2) = off + p + 2 := rfl
              have e2 : wr.cell? ⟨b, off + p + 2, none⟩ = some (.int .u8 (f (p + 2))) := HOr.out.2 (p + 2) (by omega)
              have e3 : wr.cell? ⟨b, off + p + 3, none⟩ = some (.int .u8 (f (p + 3))) := HOr.out.2 (p + 3) (by omega)
              clear hpe
              have hcc : ¬ c = 2 := by omega
              go_wp2_with fail
              refine HVA.out.mono ?_
              rintro e w1 ⟨rfl, hb1⟩
              have d1 : w1.cell? ⟨b, off + p + 1, none⟩ = some (.int .u8 0) := (hb1.cell (p := ⟨b, off + p + 1, none⟩) hb).trans e1
              have d2 : w1.cell? ⟨b, off + p + 2, none⟩ = some (.int .u8 (f (p + 2))) := (hb1.cell (p := ⟨b, off + p + 2, none⟩) hb).trans e2
              have d3 : w1.cell? ⟨b, off + p + 3, none⟩ = some (.int .u8 (f (p + 3))) := (hb1.cell (p := ⟨b, off + p + 3, none⟩) hb).trans e3
              have HB1 := hide hb1
              clear hb1 HVA e0 e1 e2 e3
              have hu := fun c' => uint16_of ⟨b, off + p + 2, none⟩ 2 c' (f (p + 2)) (f (p + 3)) w1.drew (by omega) d2 d3 w2 w3
              obtain ⟨N, hN⟩ : ∃ N : Nat, f (p + 2) * 256 + f (p + 3) = (N : Int) := ⟨(f (p + 2) * 256 + f (p + 3)).toNat, by omega⟩
              have hN2 : N ≤ 65535 := by omega
              have Htold : Hid (told f p = N) := by show (f (p + 2) * 256 + f (p + 3)).toNat = N; rw [hN]; simp
              rw [hN] at hu
              have HU := hide hu
              clear hu hN d2 d3 f1 f1' f2 f2' f3 f3' w2 w3
              go_wp2_with fail
              go_region_with (go_at_call 19; refine (HU.out _).mono ?_; rintro e w2 ⟨rfl, hb2⟩)
              all_goals
                have HB2 : Hid (Below wr.heap.size wr w2) := HB1.out.drew.trans (hb2.mono (by have := HB1.out.size; simpa using this))
                have hs2 : wr.heap.size ≤ w2.heap.size := HB2.out.size
                clear hb2 HU d1
                by_cases hN4 : N < 4
                · have hR := Hr.out
                  rw [rest_err Hz.out (hdr_len (by rw [Hm.out]; exact hm4) Hvv.out Hr1.out (.inl (by rw [Htold.out]; exact hN4))) (by omega)] at hR
                  have HR2 : Hid (R = .inl malformed) := hR
                  clear hR
                  go_wp2_with fail
                  refine (errorf_e B bm _ t (N : Int) _ _ ?_ wt (by simp) (by simp)).mono ?_
                  · exact (HTr.out.below (HB2.out.mono HTr.out.2.2.2.1)).below ((Below.refl _ _).alloc (Nat.le_trans HTr.out.2.2.2.1 hs2) _)
                  rintro e w3 ⟨g, rfl, hcg, hb3⟩
                  have HC3 : Hid (w3.cell? ⟨g, 0, none⟩ = some (.string malformed)) := hcg
                  have HB3 : Hid (Below wr.heap.size wr w3) := (HB2.out.alloc hs2 _).trans (hb3.mono (by simp; omega))
                  clear hcg hb3
                  go_wp2
                  go_ret3
                  exact dec_err HV.out HR2.out HC3.out Hg.out HB3.out
                · by_cases hNm : m < N
                  · have hR := Hr.out
                    rw [rest_err Hz.out (hdr_len (by rw [Hm.out]; exact hm4) Hvv.out Hr1.out (.inr (by rw [Hm.out, Htold.out]; exact hNm))) (by omega)] at hR
                    have HR2 : Hid (R = .inl malformed) := hR
                    clear hR
                    go_wp2_with fail
                    refine (errorf_f B bm _ t (N : Int) s (m : Int) _ _ ?_ wt (by simp) (by simp) (by simp) (by simp)).mono ?_
                    · exact (HTr.out.below (HB2.out.mono HTr.out.2.2.2.1)).below ((Below.refl _ _).alloc (Nat.le_trans HTr.out.2.2.2.1 hs2) _)
                    rintro e w3 ⟨g, rfl, hcg, hb3⟩
                    have HC3 : Hid (w3.cell? ⟨g, 0, none⟩ = some (.string malformed)) := hcg
                    have HB3 : Hid (Below wr.heap.size wr w3) := (HB2.out.alloc hs2 _).trans (hb3.mono (by simp; omega))
                    clear hcg hb3
                    go_wp2
                    go_ret3
                    exact dec_err HV.out HR2.out HC3.out Hg.out HB3.out
                  · have hR := Hr.out
                    rw [rest_next Hz.out (hdr_ok (by rw [Hm.out]; exact hm4) Hvv.out Hr1.out (by rw [Hm.out, Htold.out]; omega)) (by omega), Htold.out] at hR
                    have HR2 := hide hR
                    clear hR
                    obtain ⟨ab, hsb, hab⟩ := slice_4h b (off + p) m c N (by omega) (by omega)
                    obtain ⟨a2, hsa, ha2⟩ := slice_l b (off + p) m c N (by omega) (by omega)
                    have Hab := hide hab
                    have Ha2 := hide ha2
                    clear hab ha2
                    have hown2 : w2.ownsRow 0 44 2 (.slice au k cu) k xs := Hown.out.kept (grown_of_below HB2.out none) (by cases (Value.slice au k cu).ownBlock <;> simp)
                    have Hown2 := hide hown2
                    clear hown2
                    obtain ⟨i0, hi, hz0, hz1, hz2⟩ := info_parts44
                    go_wp2_with (at_builtin; refine wpList_append_moved _ rfl _ _ 29 rfl 44 i0 (.agg #[.int .u8 0, .slice none 0 0]) 2 32 Ybaf.underlying29 hi hz0 hz1 hz2 rfl (by decide) _ k xs rfl (Hown2.out.alloc _) ⟨w2.heap.size, 0, none⟩ 1 1 [.int .u8 t, .slice ab (N - 4) (c - 4)] rfl rfl ?c1 ?c2 ?c3 ?c4 ?_)
                    case c1 =>
                      intro j u hj
                      match j, hj with
                      | 0, hj => simp at hj; subst hj; simp [Addr.add]
                      | 1, hj => simp at hj; subst hj; simp [Addr.add]
                    case c2 => intro u hu; simp at hu; rcases hu with rfl | rfl <;> rfl
                    case c3 => unfold maxLen; omega
                    case c4 => omega
                    intro v' w4 hown4 hg4 hmv4
                    have Hown4 := hide hown4
                    have Hg4 := hide hg4
                    have Hmv4 := hide hmv4
                    clear hown4 hg4 hmv4
                    go_wp2
                    go_roundw
                    case rel => exact rnd_next HR2.out hk6 Hkl.out Hm.out (by omega) (by omega) Hab.out Ha2.out hc ⟨f0, f0'⟩ Hown.out Hpays.out Hg.out Hmv.out HB2.out Hown4.out Hg4.out Hmv4.out
                    case measure => simp [sliceLen]; omega
            · have hr2 : (f (p + 1) == 0) = false := by simpa using hr1
              have hR := Hr.out
              rw [rest_err Hz.out (hdr_reserved (by rw [Hm.out]; exact hm4) Hvv.out hr1) (by omega)] at hR
              have HR2 : Hid (R = .inl reserved) := hR
              clear hR hr1
              go_wp2_with fail
              refine HVA.out.mono ?_
              rintro e w1 ⟨rfl, hb1⟩
              have d1 : w1.cell? ⟨b, off + p + 1, none⟩ = some (.int .u8 (f (p + 1))) := (hb1.cell (p := ⟨b, off + p + 1, none⟩) hb).trans e1
              have HB1 := hide hb1
              clear hb1 HVA e0 e1
              generalize f (p + 1) = x1 at *
              go_wp2_with fail
              refine (errorf_d B bm _ t x1 _ _ ?_ wt (by simp) (by simp)).mono ?_
              · exact (HTr.out.below (HB1.out.mono HTr.out.2.2.2.1)).below ((Below.refl _ _).alloc (Nat.le_trans HTr.out.2.2.2.1 HB1.out.size) _)
              rintro e w3 ⟨g, rfl, hcg, hb3⟩
              have HC3 : Hid (w3.cell? ⟨g, 0, none⟩ = some (.string reserved)) := hcg
              have HB3 : Hid (Below wr.heap.size wr w3) := (HB1.out.alloc HB1.out.size _).trans (hb3.mono (by have := HB1.out.size; simp; omega))
              clear hcg hb3
              go_wp2
              go_ret3
              exact dec_err HV.out HR2.out HC3.out Hg.out HB3.out

end Go.Proofs.YbulkblqcFmt
