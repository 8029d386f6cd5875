/-
  THE WALK of 'wire.LawS3122AModel' over its callees' contracts.
-/
import Derived.Test.YbulkblqcFmtPayloads
import Derived.Test.YbulkblqcFmtBits
import Derived.Deep.DeepCutAuto
import Derived.Deep.CutBlock
namespace Go.Proofs.YbulkblqcFmt
open Go.RowKit

theorem info_parts3 : ∃ i0, Ybaf.prog.info? 3 = some i0 ∧ i0.zero = some (.int .i64 0) ∧ i0.size = 1 ∧ i0.bytes = 8 := by
  obtain ⟨i0, h, he⟩ := Option.map_eq_some_iff.1 (show (Ybaf.prog.info? 3).map (fun i => (i.zero, i.size, i.bytes)) = some (some (.int .i64 0), 1, 8) by kernel_rfl)
  simp only [Prod.mk.injEq] at he
  exact ⟨i0, h, he.1, he.2.1, he.2.2⟩
theorem info_parts28 : ∃ i0, Ybaf.prog.info? 28 = some i0 ∧ i0.zero = some (.int .u8 0) ∧ i0.size = 1 ∧ i0.bytes = 1 := by
  obtain ⟨i0, h, he⟩ := Option.map_eq_some_iff.1 (show (Ybaf.prog.info? 28).map (fun i => (i.zero, i.size, i.bytes)) = some (some (.int .u8 0), 1, 1) by kernel_rfl)
  simp only [Prod.mk.injEq] at he
  exact ⟨i0, h, he.1, he.2.1, he.2.2⟩

theorem one1 (u : Value) (h : u.oneCell' = true) : ∀ x ∈ [u], x.oneCell' = true := fun x hx => by
  simp only [List.mem_singleton] at hx
  subst hx
  exact h
theorem len_max {n : Nat} (h : n ≤ 64) : n + 1 ≤ maxLen := by unfold maxLen; omega
theorem len_bytes {n b : Nat} (h : n ≤ 64) (hb : b ≤ 32) : (n + 1) * b ≤ 140737488355328 := by
  have h1 : (n + 1) * b ≤ 65 * 32 := Nat.mul_le_mul (by omega) hb
  omega

/-- Its row lies from block B on. -/
def Hi (B : Nat) (v : Value) : Prop := ∀ g, v.ownBlock = some g → B ≤ g
/-- Their rows are two. -/
def Dis (u v : Value) : Prop := ∀ g, u.ownBlock = some g → v.ownBlock ≠ some g

theorem Dis.symm {u v : Value} (h : Dis u v) : Dis v u := fun g h1 h2 => h g h2 h1

theorem hi_nil (B : Nat) : Hi B (.slice none 0 0) := fun g h => by simp [Value.ownBlock] at h
theorem dis_nil (v : Value) : Dis (.slice none 0 0) v := fun g h => by simp [Value.ownBlock] at h

/-- A row beside one that is appended to. -/
theorem own_beside {w w' : World} {e : TypeId} {s n : Nat} {v v' u : Value} {xs : List Value} (hu : w.ownsRow 0 e s u n xs) (hg : w.grownBy w' v.ownBlock) (hm : Moved w v v') (hd : Dis v u) : w'.ownsRow 0 e s u n xs ∧ Dis v' u := by
  refine ⟨hu.kept hg ?_, fun g h1 h2 => ?_⟩
  · cases hx : u.ownBlock with
    | none => exact .inl rfl
    | some g => exact .inr (fun e => hd g e.symm hx)
  · rcases hm g h1 with h | h
    · exact hd g h h2
    · have := (hu.lt g h2).2
      omega

theorem hi_moved {w : World} {B : Nat} {v v' : Value} (h : Hi B v) (hm : Moved w v v') (hB : B ≤ w.heap.size) : Hi B v' := fun g hg => by
  rcases hm g hg with h' | h'
  · exact h g h'
  · omega

/-- The law's three rows. -/
def Rows3 (B : Nat) (x5 x6 x7 : List Value) (v5 v6 v7 : Value) (wr : World) : Prop :=
  wr.ownsRow 0 3 1 v5 x5.length x5 ∧ wr.ownsRow 0 3 1 v6 x6.length x6 ∧ wr.ownsRow 0 28 1 v7 x7.length x7 ∧ Hi B v5 ∧ Hi B v6 ∧ Hi B v7 ∧ Dis v5 v6 ∧ Dis v5 v7 ∧ Dis v6 v7

/-- What they hold. -/
def Tri (B : Nat) (l : List (Int × Nat × Nat)) (v5 v6 v7 : Value) (wr : World) : Prop :=
  Rows3 B (l.map fun x => .int .i64 (x.2.1 : Int)) (l.map fun x => .int .i64 (x.2.2 : Int)) (l.map fun x => .int .u8 x.1) v5 v6 v7 wr

theorem own_len {w : World} {e : TypeId} {n : Nat} {v : Value} {xs : List Value} (h : w.ownsRow 0 e 1 v n xs) : w.ownsRow 0 e 1 v xs.length xs := by
  have e1 : n = xs.length := by have := h.1; omega
  rwa [← e1]

theorem Rows3.app5 {B n : Nat} {x5 x6 x7 : List Value} {v5 v6 v7 v' y : Value} {w w' : World} {o : Obj} (h : Rows3 B x5 x6 x7 v5 v6 v7 w) (hB : B ≤ w.heap.size)
    (ho : w'.ownsRow 0 3 1 v' n (x5 ++ [y])) (hg : (w.alloc o).grownBy w' v5.ownBlock) (hm : Moved (w.alloc o) v5 v') : Rows3 B (x5 ++ [y]) x6 x7 v' v6 v7 w' := by
  obtain ⟨_, h6, h7, b5, b6, b7, d56, d57, d67⟩ := h
  obtain ⟨k6, e6⟩ := own_beside (h6.alloc o) hg hm d56
  obtain ⟨k7, e7⟩ := own_beside (h7.alloc o) hg hm d57
  exact ⟨own_len ho, k6, k7, hi_moved b5 hm (by simp; omega), b6, b7, e6, e7, d67⟩

theorem Rows3.app6 {B n : Nat} {x5 x6 x7 : List Value} {v5 v6 v7 v' y : Value} {w w' : World} {o : Obj} (h : Rows3 B x5 x6 x7 v5 v6 v7 w) (hB : B ≤ w.heap.size)
    (ho : w'.ownsRow 0 3 1 v' n (x6 ++ [y])) (hg : (w.alloc o).grownBy w' v6.ownBlock) (hm : Moved (w.alloc o) v6 v') : Rows3 B x5 (x6 ++ [y]) x7 v5 v' v7 w' := by
  obtain ⟨h5, _, h7, b5, b6, b7, d56, d57, d67⟩ := h
  obtain ⟨k5, e5⟩ := own_beside (h5.alloc o) hg hm d56.symm
  obtain ⟨k7, e7⟩ := own_beside (h7.alloc o) hg hm d67
  exact ⟨k5, own_len ho, k7, b5, hi_moved b6 hm (by simp; omega), b7, e5.symm, d57, e7⟩

theorem Rows3.app7 {B n : Nat} {x5 x6 x7 : List Value} {v5 v6 v7 v' y : Value} {w w' : World} {o : Obj} (h : Rows3 B x5 x6 x7 v5 v6 v7 w) (hB : B ≤ w.heap.size)
    (ho : w'.ownsRow 0 28 1 v' n (x7 ++ [y])) (hg : (w.alloc o).grownBy w' v7.ownBlock) (hm : Moved (w.alloc o) v7 v') : Rows3 B x5 x6 (x7 ++ [y]) v5 v6 v' w' := by
  obtain ⟨h5, h6, _, b5, b6, b7, d56, d57, d67⟩ := h
  obtain ⟨k5, e5⟩ := own_beside (h5.alloc o) hg hm d57.symm
  obtain ⟨k6, e6⟩ := own_beside (h6.alloc o) hg hm d67.symm
  exact ⟨k5, k6, own_len ho, b5, b6, hi_moved b7 hm (by simp; omega), d56, e5.symm, e6.symm⟩

theorem below_app {B : Nat} {w0 w w' : World} {v : Value} {o : Obj} (h : Below B w0 w) (hB : B ≤ w0.heap.size) (hv : Hi B v) (hg : (w.alloc o).grownBy w' v.ownBlock) : Below B w0 w' :=
  (h.alloc (Nat.le_trans hB h.size) o).grown hg (by have := h.size; simp; omega) hv

/-- The law's own loop: what holds at a round's head. -/
def Mrnd (R : Sum ByteArray (List (Int × Nat × Nat) × Nat)) (f : Nat → Int) (L : Nat) (w : World) (v5 v6 v7 v8 v9 v10 v11 : Value) (wr : World) : Prop :=
  ∃ (k p : Nat) (t : Int) (l : List (Int × Nat × Nat)), v8 = .string ⟨#[]⟩ ∧ v9 = .int .i64 p ∧ v10 = .int .u8 t ∧ v11 = .int .i64 k ∧ p ≤ L ∧ k ≤ 64 ∧ l.length = k ∧
    R = rest f L (64 - k) t p l ∧ (0 ≤ t ∧ t ≤ 255) ∧ Tri w.heap.size l v5 v6 v7 wr ∧ Below w.heap.size w wr

/-- Behind it. -/
def Mend (R : Sum ByteArray (List (Int × Nat × Nat) × Nat)) (w : World) (v5 v6 v7 v8 v9 v11 : Value) (wr : World) : Prop :=
  Below w.heap.size w wr ∧ ∃ (p k : Nat) (ev : ByteArray), v8 = .string ev ∧ v9 = .int .i64 p ∧ v11 = .int .i64 k ∧
    ((R = .inl ev ∧ ev.data.toList ≠ []) ∨ (ev = ⟨#[]⟩ ∧ ∃ l, R = .inr (l, p) ∧ l.length = k ∧ k ≤ 64 ∧ Tri w.heap.size l v5 v6 v7 wr))

theorem mrnd_start {R : Sum ByteArray (List (Int × Nat × Nat) × Nat)} {f : Nat → Int} {L : Nat} {w : World} {t0 : Int} (hR : R = rest f L 64 t0 0 []) (ht : 0 ≤ t0 ∧ t0 ≤ 255) :
    Mrnd R f L w (.slice none 0 0) (.slice none 0 0) (.slice none 0 0) (.string ⟨#[]⟩) (.int .i64 0) (.int .u8 t0) (.int .i64 0) w :=
  ⟨0, 0, t0, [], rfl, rfl, rfl, rfl, Nat.zero_le _, by omega, rfl, hR, ht,
    ⟨World.ownsRow_nil _ _ _ _, World.ownsRow_nil _ _ _ _, World.ownsRow_nil _ _ _ _, hi_nil _, hi_nil _, hi_nil _, dis_nil _, dis_nil _, dis_nil _⟩, Below.refl _ _⟩

theorem mrnd_next {R : Sum ByteArray (List (Int × Nat × Nat) × Nat)} {f : Nat → Int} {L k p N : Nat} {w w4 : World} {t nx : Int} {l : List (Int × Nat × Nat)} {v5 v6 v7 : Value} (hR : R = rest f L (64 - k - 1) nx (p + N) (l ++ [(t, p + 4, p + N)])) (hk : k < 64) (hkl : l.length = k) (hp : p + N ≤ L)
    (hnx : 0 ≤ nx ∧ nx ≤ 255)
    (h3 : Rows3 w.heap.size ((l.map fun x => .int .i64 (x.2.1 : Int)) ++ [.int .i64 ((p : Int) + 4)]) ((l.map fun x => .int .i64 (x.2.2 : Int)) ++ [.int .i64 ((p : Int) + (N : Int))]) ((l.map fun x => .int .u8 x.1) ++ [.int .u8 t]) v5 v6 v7 w4) (hB : Below w.heap.size w w4) :
    Mrnd R f L w v5 v6 v7 (.string ⟨#[]⟩) (.int .i64 ((p : Int) + (N : Int))) (.int .u8 nx) (.int .i64 ((k : Int) + 1)) w4 := by
  refine ⟨k + 1, p + N, nx, l ++ [(t, p + 4, p + N)], rfl, by rw [Int.natCast_add], rfl, by rw [Int.natCast_add]; rfl, hp, by omega, by simp [hkl], by rw [hR]; congr 1, hnx, ?_, hB⟩
  unfold Tri
  simpa [Int.natCast_add] using h3

theorem mend_ok {R : Sum ByteArray (List (Int × Nat × Nat) × Nat)} {w wr : World} {l : List (Int × Nat × Nat)} {p k : Nat} {v5 v6 v7 : Value} (hR : R = .inr (l, p)) (hkl : l.length = k) (hk : k ≤ 64) (h3 : Tri w.heap.size l v5 v6 v7 wr) (hB : Below w.heap.size w wr) :
    Mend R w v5 v6 v7 (.string ⟨#[]⟩) (.int .i64 p) (.int .i64 k) wr :=
  ⟨hB, p, k, _, rfl, rfl, rfl, .inr ⟨rfl, l, hR, hkl, hk, h3⟩⟩

theorem mend_err {R : Sum ByteArray (List (Int × Nat × Nat) × Nat)} {w wr : World} {p k : Nat} {v5 v6 v7 : Value} {ev : ByteArray} (hR : R = .inl ev) (he : ev.data.toList ≠ []) (hB : Below w.heap.size w wr) :
    Mend R w v5 v6 v7 (.string ev) (.int .i64 p) (.int .i64 k) wr :=
  ⟨hB, p, k, ev, rfl, rfl, rfl, .inl ⟨hR, he⟩⟩

/-- Every payload that the parser tells lies within the body. -/
theorem rest_bounds {f : Nat → Int} {L : Nat} : ∀ (fuel : Nat) (t : Int) (p : Nat) (acc : List (Int × Nat × Nat)) (l : List (Int × Nat × Nat)) (q : Nat), rest f L fuel t p acc = .inr (l, q) → p ≤ L → (∀ x ∈ acc, x.2.1 ≤ x.2.2 ∧ x.2.2 ≤ L) → ∀ x ∈ l, x.2.1 ≤ x.2.2 ∧ x.2.2 ≤ L
  | 0, t, p, acc, l, q, h, _, ha => by
    unfold rest at h
    split at h
    · cases h; exact ha
    · cases h
  | fuel + 1, t, p, acc, l, q, h, hp, ha => by
    unfold rest at h
    split at h
    · cases h; exact ha
    · split at h
      · cases h
      · rename_i nx n he
        have hb : 4 ≤ n ∧ n ≤ L - p := by
          unfold hdr at he
          split at he
          · cases he
          · split at he
            · cases he
            · split at he
              · cases he
              · split at he
                · cases he
                · cases he
                  omega
        refine rest_bounds fuel nx (p + n) _ l q h (by omega) (fun x hx => ?_)
        rcases List.mem_append.1 hx with h' | h'
        · exact ha x h'
        · simp only [List.mem_singleton] at h'
          subst h'
          simp only
          omega

theorem rest_good {f : Nat → Int} {L p : Nat} {t0 : Int} {R : Sum ByteArray (List (Int × Nat × Nat) × Nat)} {l : List (Int × Nat × Nat)} (hR : R = rest f L 64 t0 0 []) (h : R = .inr (l, p)) : ∀ x ∈ l, x.2.1 ≤ x.2.2 ∧ x.2.2 ≤ L :=
  rest_bounds 64 t0 0 [] l p (hR.symm.trans h) (Nat.zero_le _) (fun _ h => by cases h)

/-- A payload's body against the same octets of the whole. -/
theorem eq_body (b off s n c1 c2 : Nat) (a1 a2 : Option Addr) (f : Nat → Int) (w : World) (hn : n ≤ 1048576) (hO : ∀ i, i < n → w.cell? ⟨b, off + (s + i), none⟩ = some (.int .u8 (f (s + i))))
    (h1 : n = 0 ∨ a1 = some ⟨b, off + s, none⟩) (h2 : n = 0 ∨ a2 = some ⟨b, off + s, none⟩) (m : Nat) :
    Calls Ybaf.prog 9 #[.slice a1 n c1, .slice a2 n c2] (w.drewN m) fun e w' => e = .returned (.bool true) ∧ ∃ k, w' = (w.drewN m).drewN k := by
  by_cases h0 : n = 0
  · subst h0
    exact eq_none _ _ _ _ _
  · obtain rfl := h1.resolve_left h0
    obtain rfl := h2.resolve_left h0
    exact eq_some b (off + s) b (off + s) n c1 c2 (fun i => f (s + i)) _ hn (fun i hi => by rw [Nat.add_assoc]; exact hO i hi) (fun i hi => by rw [Nat.add_assoc]; exact hO i hi)

theorem own_pos {w : World} {e : TypeId} {s n : Nat} {v : Value} {xs : List Value} (h : w.ownsRow 0 e s v n xs) (hn : 0 < n) :
    ∃ g c, v = .slice (some ⟨g, 0, none⟩) n c ∧ ∀ j, j < n * s → w.cell? ⟨g, j, none⟩ = xs[j]? := by
  rcases h.2 with ⟨_, h0⟩ | ⟨g, cap, cur, rfl, hb, hg, hnc, hc, hs, htk⟩
  · omega
  · exact ⟨g, cap, rfl, fun j hj => World.ownsRow.cellAt ⟨h.1, .inr ⟨g, cap, cur, rfl, hb, hg, hnc, hc, hs, htk⟩⟩ j hj⟩

theorem Tbl.up {B B' bm : Nat} {w : World} (h : Tbl B bm w) (h1 : B ≤ B') (h2 : B' ≤ w.heap.size) : Tbl B' bm w :=
  ⟨h.1, by have := h.2.1; omega, by have := h.2.2.1; omega, h2, h.2.2.2.2⟩

theorem dec_new (wc : World) : Dec wc.heap.size (wc.alloc (.cells #[.slice none 0 0, .int .u32 0, .int .u32 0, .slice none 0 0, .slice none 0 0, .slice none 0 0, .slice none 0 0, .slice none 0 0, .slice none 0 0] 37)) :=
  ⟨.slice none 0 0, 0, [], by simp, by simp, World.ownsRow_nil _ _ _ _, fun g hg => by simp [Value.ownBlock] at hg⟩

/-- A decoder made new, and one call of Payloads. -/
theorem pay_new (bm : Nat) (R : Sum ByteArray (List (Int × Nat × Nat) × Nat)) (f : Nat → Int) (b off L c0 : Nat) (t0 : Int) (wc : World) (hR : R = rest f L 64 t0 0 []) (hL : L ≤ 2097152) (hLc : L ≤ c0) (ht : 0 ≤ t0 ∧ t0 ≤ 255)
    (hf : ∀ i, i < L → 0 ≤ f i ∧ f i ≤ 255) (hO : Octets b off L f wc) (hb : b < wc.heap.size) (hT : Tbl wc.heap.size bm wc) :
    Calls Ybaf.prog 7 #[.pointer (some ⟨wc.heap.size, 0, none⟩), .int .u8 t0, .slice (some ⟨b, off, none⟩) L c0]
      (wc.alloc (.cells #[.slice none 0 0, .int .u32 0, .int .u32 0, .slice none 0 0, .slice none 0 0, .slice none 0 0, .slice none 0 0, .slice none 0 0, .slice none 0 0] 37)) fun e w' =>
      PayRes R b off L e w' ∧ Below wc.heap.size (wc.alloc (.cells #[.slice none 0 0, .int .u32 0, .int .u32 0, .slice none 0 0, .slice none 0 0, .slice none 0 0, .slice none 0 0, .slice none 0 0, .slice none 0 0] 37)) w' := by
  refine (payloads_any wc.heap.size bm R f b off L (some ⟨b, off, none⟩) c0 t0 _ hR hL hLc (.inr rfl) ht hf (hO.grown (World.grownBy_alloc wc _ none) (by simp)) hb (hT.below ((Below.refl _ _).alloc (Nat.le_refl _) _)) (dec_new wc)).mono ?_
  rintro e w' ⟨h1, _, h3⟩
  exact ⟨h1, h3⟩

set_option maxHeartbeats 1000000 in
set_option maxRecDepth 100000 in
theorem model_some (bm : Nat) (R : Sum ByteArray (List (Int × Nat × Nat) × Nat)) (f : Nat → Int) (b off L c0 : Nat) (t0 : Int) (w : World)
    (hR : R = rest f L 64 t0 0 []) (hL : L ≤ 1048576) (hLc : L ≤ c0) (ht : 0 ≤ t0 ∧ t0 ≤ 255)
    (hf : ∀ i, i < L → 0 ≤ f i ∧ f i ≤ 255) (hO : Octets b off L f w) (hT : Tbl w.heap.size bm w) :
    Calls Ybaf.prog 3 #[.int .u8 t0, .slice (some ⟨b, off, none⟩) L c0] w fun e w' => e = .returned (.bool true) ∧ Below w.heap.size w w' := by
  have HO := hide hO
  have HT := hide hT
  have HR := hide hR
  have HF := hide hf
  clear hO hT hR hf
  go_enter Ybaf.func3, Ybaf.ntmps3
  go_upto_block 0 with fail
  go_cut [5, 6, 7, 8, 9, 10, 11] (fun v5 v6 v7 v8 v9 v10 v11 wx => Mend R w v5 v6 v7 v8 v9 v11 wx)
  case first =>
    go_wp2
    go_loopw [5, 6, 7, 8, 9, 10, 11] (fun v5 v6 v7 v8 v9 v10 v11 wr => Mrnd R f L w v5 v6 v7 v8 v9 v10 v11 wr) (fun _ _ _ _ v9 _ _ _ => L - (intOf v9).toNat)
    case atStart => exact mrnd_start HR.out ht
    case round =>
      obtain ⟨k, p, t, l, rfl, rfl, rfl, rfl, hp, hk, hkl, hr, ⟨t1, t2⟩, h3, hB⟩ := hrel
      have Hr := hide hr
      have Hkl := hide hkl
      have H3 := hide h3
      have HB := hide hB
      clear hr hkl h3 hB
      by_cases hz : t = 0
      · have hR := Hr.out
        rw [rest_zero hz] at hR
        have HR2 := hide hR
        clear hR
        subst hz
        go_wp2
        go_meet
        case rel => exact mend_ok HR2.out Hkl.out hk H3.out HB.out
      · have hz' : (t == 0) = false := by simpa using hz
        have Hz := hide hz
        clear hz
        by_cases hk4 : k = 64
        · subst hk4
          have hR := Hr.out
          rw [Nat.sub_self, rest_full Hz.out] at hR
          have HR2 := hide hR
          clear hR
          go_wp2
          go_meet
          case rel => exact mend_err HR2.out (by decide) HB.out
        · have hk5 : ((k : Int) == 64) = false := by simp; omega
          have hk6 : k < 64 := by omega
          clear hk4
          by_cases hm4 : L - p < 4
          · have hR := Hr.out
            rw [rest_err Hz.out (hdr_short hm4) (by omega)] at hR
            have HR2 := hide hR
            clear hR
            have hm5 : (L : Int) - (p : Int) < 4 := by omega
            go_wp2
            go_meet
            case rel => exact mend_err HR2.out (by decide) HB.out
          · have hp4 : p + 4 ≤ L := by omega
            obtain ⟨f0, f0'⟩ := HF.out p (by omega)
            obtain ⟨f1, f1'⟩ := HF.out (p + 1) (by omega)
            obtain ⟨f2, f2'⟩ := HF.out (p + 2) (by omega)
            obtain ⟨f3, f3'⟩ := HF.out (p + 3) (by omega)
            have hOr : Octets b off L f wr := ⟨Nat.lt_of_lt_of_le HO.out.1 HB.out.size, fun i hi => (HB.out.cell (p := ⟨b, off + i, none⟩) HO.out.1).trans (HO.out.2 i hi)⟩
            have e0 : wr.cell? ⟨b, off + p, none⟩ = some (.int .u8 (f p)) := hOr.2 p (by omega)
            have e1 : wr.cell? ⟨b, off + (p + 1), none⟩ = some (.int .u8 (f (p + 1))) := hOr.2 (p + 1) (by omega)
            have e2 : wr.cell? ⟨b, off + (p + 2), none⟩ = some (.int .u8 (f (p + 2))) := hOr.2 (p + 2) (by omega)
            have e3 : wr.cell? ⟨b, off + (p + 3), none⟩ = some (.int .u8 (f (p + 3))) := hOr.2 (p + 3) (by omega)
            clear hOr
            have Hm4 := hide hm4
            clear hm4
            have hva := avalid_any (f p) wr f0
            cases hvv : (assigned (f p) || f p == 0)
            · rw [hvv] at hva
              have hR := Hr.out
              rw [rest_err Hz.out (hdr_next Hm4.out hvv) (by omega)] at hR
              have HR2 := hide hR
              have HVA := hide hva
              clear hR hva hvv
              generalize f p = x0 at *
              go_wp2_with fail
              refine HVA.out.mono ?_
              rintro e w1 ⟨rfl, rfl⟩
              go_wp2
              go_meet
              case rel => exact mend_err HR2.out (by decide) HB.out
            · rw [hvv] at hva
              have HVA := hide hva
              have Hvv := hide hvv
              clear hva hvv
              by_cases hr1 : f (p + 1) = 0
              · rw [hr1] at e1
                have Hr1 := hide hr1
                clear hr1
                obtain ⟨N, hN⟩ : ∃ N : Nat, f (p + 2) * 256 + f (p + 3) = (N : Int) := ⟨(f (p + 2) * 256 + f (p + 3)).toNat, by omega⟩
                have hN2 : N ≤ 65535 := by omega
                have Htold : Hid (told f p = N) := by show (f (p + 2) * 256 + f (p + 3)).toNat = N; rw [hN]; simp
                have hbits := or_octets (f (p + 2)) (f (p + 3)) f2 f2' f3 f3'
                rw [hN] at hbits
                clear hN
                go_wp2_with fail
                refine HVA.out.mono ?_
                rintro e w1 ⟨rfl, rfl⟩
                clear HVA
                go_wp2_with fail
                go_quiet (fail)
                have H3q : Hid (Tri w.heap.size l u5 u6 u7 (w1.drewN nq)) := H3.out
                have HBq : Hid (Below w.heap.size w (w1.drewN nq)) := ⟨HB.out.os, HB.out.tape, HB.out.output, HB.out.size, HB.out.block⟩
                clear H3 HB e0 e1 e2 e3 hbits f1 f1' f2 f2' f3 f3'
                generalize w1.drewN nq = wq at *
                by_cases hN4 : N < 4
                · have hR := Hr.out
                  rw [rest_err Hz.out (hdr_len Hm4.out Hvv.out Hr1.out (.inl (by rw [Htold.out]; exact hN4))) (by omega)] at hR
                  have HR2 := hide hR
                  clear hR
                  go_wp2
                  go_meet
                  case rel => exact mend_err HR2.out (by decide) HBq.out
                · by_cases hNm : L - p < N
                  · have hR := Hr.out
                    rw [rest_err Hz.out (hdr_len Hm4.out Hvv.out Hr1.out (.inr (by rw [Htold.out]; exact hNm))) (by omega)] at hR
                    have HR2 := hide hR
                    clear hR
                    have hNm' : (L : Int) - (p : Int) < (N : Int) := by omega
                    go_wp2
                    go_meet
                    case rel => exact mend_err HR2.out (by decide) HBq.out
                  · have hR := Hr.out
                    rw [rest_next Hz.out (hdr_ok Hm4.out Hvv.out Hr1.out (by rw [Htold.out]; omega)) (by omega), Htold.out] at hR
                    have HR2 := hide hR
                    clear hR
                    have hNm' : ¬ (L : Int) - (p : Int) < (N : Int) := by omega
                    have hN4' : ¬ (N : Int) < 4 := by omega
                    have hlen : l.length ≤ 64 := by have := Hkl.out; omega
                    have hx5 : (l.map fun x => Value.int .i64 (x.2.1 : Int)).length ≤ 64 := by simpa using hlen
                    have hx6 : (l.map fun x => Value.int .i64 (x.2.2 : Int)).length ≤ 64 := by simpa using hlen
                    have hx7 : (l.map fun x => Value.int .u8 x.1).length ≤ 64 := by simpa using hlen
                    obtain ⟨i3, hi3, hz30, hz31, hz32⟩ := info_parts3
                    obtain ⟨i28, hi28, hz280, hz281, hz282⟩ := info_parts28
                    go_wp2_with (at_builtin; refine wpList_append_moved _ rfl _ _ 23 rfl 3 i3 (.int .i64 0) 1 8 Ybaf.underlying23 hi3 hz30 hz31 hz32 rfl (by decide) _ _ _ rfl (H3q.out.1.alloc _) ⟨wq.heap.size, 0, none⟩ 1 1 [.int .i64 ((p : Int) + 4)] rfl rfl (cell_one_new _ _ _) (one1 _ rfl) (len_max hx5) (len_bytes hx5 (by decide)) ?_)
                    intro v5 w2 ho5 hg5 hm5
                    have H5 := hide (H3q.out.app5 HBq.out.size ho5 hg5 hm5)
                    have HB5 := hide (below_app HBq.out (Nat.le_refl _) H3q.out.2.2.2.1 hg5)
                    clear ho5 hg5 hm5
                    go_wp2_with (at_builtin; refine wpList_append_moved _ rfl _ _ 23 rfl 3 i3 (.int .i64 0) 1 8 Ybaf.underlying23 hi3 hz30 hz31 hz32 rfl (by decide) _ _ _ rfl (H5.out.2.1.alloc _) ⟨w2.heap.size, 0, none⟩ 1 1 [.int .i64 ((p : Int) + (N : Int))] rfl rfl (cell_one_new _ _ _) (one1 _ rfl) (len_max hx6) (len_bytes hx6 (by decide)) ?_)
                    intro v6 w3 ho6 hg6 hm6
                    have H6 := hide (H5.out.app6 HB5.out.size ho6 hg6 hm6)
                    have HB6 := hide (below_app HB5.out (Nat.le_refl _) H5.out.2.2.2.2.1 hg6)
                    clear ho6 hg6 hm6
                    go_wp2_with (at_builtin; refine wpList_append_moved _ rfl _ _ 24 rfl 28 i28 (.int .u8 0) 1 1 Ybaf.underlying24 hi28 hz280 hz281 hz282 rfl (by decide) _ _ _ rfl (H6.out.2.2.1.alloc _) ⟨w3.heap.size, 0, none⟩ 1 1 [.int .u8 t] rfl rfl (cell_one_new _ _ _) (one1 _ rfl) (len_max hx7) (len_bytes hx7 (by decide)) ?_)
                    intro v7 w4 ho7 hg7 hm7
                    have H7 := hide (H6.out.app7 HB6.out.size ho7 hg7 hm7)
                    have HB7 := hide (below_app HB6.out (Nat.le_refl _) H6.out.2.2.2.2.2.1 hg7)
                    clear ho7 hg7 hm7
                    go_wp2
                    go_roundw
                    case rel => exact mrnd_next HR2.out hk6 Hkl.out (by omega) ⟨f0, f0'⟩ H7.out HB7.out
                    case measure => simp [intOf]; omega
              · have hr2 : (f (p + 1) == 0) = false := by simpa using hr1
                have hR := Hr.out
                rw [rest_err Hz.out (hdr_reserved Hm4.out Hvv.out hr1) (by omega)] at hR
                have HR2 := hide hR
                clear hR hr1
                go_wp2_with fail
                refine HVA.out.mono ?_
                rintro e w1 ⟨rfl, rfl⟩
                clear HVA
                go_wp2
                go_meet
                case rel => exact mend_err HR2.out (by decide) HB.out
  case rest =>
    obtain ⟨hB, p, k, ev, rfl, rfl, rfl, hcase⟩ := hcut
    have hOc : Octets b off L f wc := ⟨Nat.lt_of_lt_of_le HO.out.1 hB.size, fun i hi => (hB.cell (p := ⟨b, off + i, none⟩) HO.out.1).trans (HO.out.2 i hi)⟩
    have hTc : Tbl w.heap.size bm wc := HT.out.below hB
    have hpay := pay_new bm R f b off L c0 t0 wc HR.out (by omega) hLc ht HF.out hOc (Nat.lt_of_lt_of_le HO.out.1 hB.size) (hTc.up hB.size (Nat.le_refl _))
    have Hpay := hide hpay
    have HB := hide hB
    have hnil := fun (w : World) (a : Option Addr) (n c n' c' : Nat) => Lib.run_eql_slice_nil (P := Ybaf.prog) w 29 _ a n c n' c' Ybaf.underlying29
    clear hpay hOc hTc hB
    rcases hcase with ⟨hR1, hne⟩ | ⟨rfl, l, hR1, hkl, hk, h3⟩
    · have HR1 := hide hR1
      have hne' : ev.toList ≠ [] := by rw [ByteArray.toList_eq]; exact hne
      have hne2 : ev.toList.isEmpty = false := by simpa using hne'
      clear hR1 hne
      go_wp2_with fail
      refine Hpay.out.mono ?_
      rintro e w5 ⟨hres, hbel⟩
      obtain ⟨g, rfl, hcg⟩ := hres.1 ev (.inl HR1.out)
      have Hcg := hide hcg
      have Hbel := hide hbel
      clear hres hbel hcg Hpay
      go_wp2_with fail
      refine (event_of g ev w5 Hcg.out).mono ?_
      rintro e w6 ⟨rfl, rfl⟩
      go_wp2
      go_ret
      exact ⟨rfl, HB.out.trans (((Below.refl _ _).alloc HB.out.size _).trans (Hbel.out.mono HB.out.size))⟩
    · have HR1 := hide hR1
      by_cases hpL : p < L
      · have hpL' : (p : Int) < (L : Int) := by omega
        clear hR1 h3
        go_wp2_with fail
        refine Hpay.out.mono ?_
        rintro e w5 ⟨hres, hbel⟩
        obtain ⟨g, rfl, hcg⟩ := hres.1 malformed (.inr ⟨rfl, l, p, HR1.out, hpL⟩)
        have Hcg := hide hcg
        have Hbel := hide hbel
        clear hres hbel hcg Hpay
        go_wp2_with fail
        refine (event_of g malformed w5 Hcg.out).mono ?_
        rintro e w6 ⟨rfl, rfl⟩
        have hmal : malformed = ⟨#[80, 65, 89, 76, 79, 65, 68, 32, 77, 65, 76, 70, 79, 82, 77, 69, 68]⟩ := rfl
        rw [hmal]
        clear hmal
        go_wp2
        go_ret
        exact ⟨rfl, HB.out.trans (((Below.refl _ _).alloc HB.out.size _).trans (Hbel.out.mono HB.out.size))⟩
      · have hpL' : ¬ (p : Int) < (L : Int) := by omega
        have H3 := hide h3
        have Hg := hide (rest_good HR.out HR1.out)
        clear hR1 h3
        subst hkl
        go_wp2_with fail
        refine Hpay.out.mono ?_
        rintro e w5 ⟨hres, hbel⟩
        obtain ⟨v, xs, rfl, hown, hpays⟩ := hres.2 l p HR1.out hpL
        have hbc : Below wc.heap.size wc w5 := ((Below.refl _ _).alloc (Nat.le_refl _) _).trans hbel
        have hO5 : Octets b off L f w5 := ⟨Nat.lt_of_lt_of_le HO.out.1 (Nat.le_trans HB.out.size hbc.size), fun i hi => (hbc.cell (p := ⟨b, off + i, none⟩) (Nat.lt_of_lt_of_le HO.out.1 HB.out.size)).trans ((HB.out.cell (p := ⟨b, off + i, none⟩) HO.out.1).trans (HO.out.2 i hi))⟩
        have HO5 := hide hO5
        have Hbc := hide hbc
        have Hown := hide hown
        have Hpays := hide hpays
        clear hres hbel hbc hown hpays Hpay hO5
        by_cases hl0 : l.length = 0
        · rw [hl0]
          have hvs : ∃ a n c, v = .slice a 0 c ∧ n = 0 := by
            rcases Hown.out.2 with ⟨h, _⟩ | ⟨g, cap, cur, h, _⟩
            · exact ⟨_, 0, _, h, rfl⟩
            · exact ⟨_, 0, _, by rw [h, hl0], rfl⟩
          obtain ⟨av, _, cv, rfl, _⟩ := hvs
          have Hl0 := hide hl0
          clear hl0
          go_wp2
          refine wp_loop_rounds 1 ?_
          rw [rounds_succ]
          go_wp2
          go_ret
          exact ⟨rfl, HB.out.trans (Hbc.out.mono HB.out.size)⟩
        · obtain ⟨gp, cp, hvp, hcp⟩ := own_pos Hown.out (by omega)
          obtain ⟨g5, c5, hv5, hc5⟩ := own_pos H3.out.1 (by simpa using Nat.pos_of_ne_zero hl0)
          obtain ⟨g6, c6, hv6, hc6⟩ := own_pos H3.out.2.1 (by simpa using Nat.pos_of_ne_zero hl0)
          obtain ⟨g7, c7, hv7, hc7⟩ := own_pos H3.out.2.2.1 (by simpa using Nat.pos_of_ne_zero hl0)
          simp only [List.length_map, Nat.mul_one] at hv5 hv6 hv7 hc5 hc6 hc7
          have q5 : g5 < wc.heap.size := (H3.out.1.lt g5 (by rw [hv5]; rfl)).2
          have q6 : g6 < wc.heap.size := (H3.out.2.1.lt g6 (by rw [hv6]; rfl)).2
          have q7 : g7 < wc.heap.size := (H3.out.2.2.1.lt g7 (by rw [hv7]; rfl)).2
          replace hc5 := fun j hj => (Hbc.out.cell (p := ⟨g5, j, none⟩) q5).trans (hc5 j hj)
          replace hc6 := fun j hj => (Hbc.out.cell (p := ⟨g6, j, none⟩) q6).trans (hc6 j hj)
          replace hc7 := fun j hj => (Hbc.out.cell (p := ⟨g7, j, none⟩) q7).trans (hc7 j hj)
          subst hvp hv5 hv6 hv7
          have Hcp := hide hcp
          have Hc5 := hide hc5
          have Hc6 := hide hc6
          have Hc7 := hide hc7
          clear hcp hc5 hc6 hc7 q5 q6 q7
          go_wp2_with fail
          go_loopw [17] (fun i wq => ∃ j m : Nat, j ≤ l.length ∧ i = .int .i64 j ∧ wq = w5.drewN m) (fun i _ => l.length - (intOf i).toNat)
          case atStart => exact ⟨0, 0, Nat.zero_le _, rfl, rfl⟩
          case round =>
            obtain ⟨j, m, hj, rfl, hwq⟩ := hrel
            by_cases hlt : j < l.length
            · obtain ⟨hse, heL⟩ := Hg.out l[j] (List.getElem_mem hlt)
              obtain ⟨hp0, vb, hp1, hvb⟩ := Hpays.out j hlt
              have d0 : wr.cell? ⟨gp, 2 * j, none⟩ = some (.int .u8 l[j].1) := by rw [hwq]; exact (Hcp.out (2 * j) (by omega)).trans hp0
              have d1 : wr.cell? ⟨gp, 2 * j + 1, none⟩ = some vb := by rw [hwq]; exact (Hcp.out (2 * j + 1) (by omega)).trans hp1
              have d5 : wr.cell? ⟨g5, j, none⟩ = some (.int .i64 (l[j].2.1 : Int)) := by
                rw [hwq]; exact (Hc5.out j (by omega)).trans (by simp [hlt])
              have d6 : wr.cell? ⟨g6, j, none⟩ = some (.int .i64 (l[j].2.2 : Int)) := by
                rw [hwq]; exact (Hc6.out j (by omega)).trans (by simp [hlt])
              have d7 : wr.cell? ⟨g7, j, none⟩ = some (.int .u8 l[j].1) := by
                rw [hwq]; exact (Hc7.out j (by omega)).trans (by simp [hlt])
              have hO6 : ∀ i, i < L → wr.cell? ⟨b, off + i, none⟩ = some (.int .u8 (f i)) := fun i hi => by rw [hwq]; exact HO5.out.2 i hi
              have HO6 := hide hO6
              have Hwq := hide hwq
              obtain ⟨a', hsl, ha'⟩ := slice_lh b off L c0 l[j].2.1 l[j].2.2 hse (by omega)
              clear hwq hO6 hp0 hp1
              generalize l[j].1 = tj at *
              generalize l[j].2.1 = sj at *
              generalize l[j].2.2 = ej at *
              obtain ⟨ab, cb, rfl, hab⟩ := hvb
              have heq := eq_body b off sj (ej - sj) cb (c0 - sj) ab a' f wr (by omega) (fun i hi => HO6.out (sj + i) (by omega)) hab ha'
              have Heq := hide heq
              clear heq hab ha' HO6
              have d0' : wr.cell? ⟨gp, j * 2, none⟩ = some (.int .u8 tj) := by rw [Nat.mul_comm]; exact d0
              have d1' : wr.cell? ⟨gp, j * 2 + 1, none⟩ = some (.slice ab (ej - sj) cb) := by rw [Nat.mul_comm]; exact d1
              go_wp2_with fail
              go_quiet ((go_at_call 9; exact Calls.quiet_of (Heq.out _)))
              go_wp2
              go_roundw
              case rel => exact ⟨j + 1, _, by omega, by go_num, by rw [Hwq.out, World.drewN_drewN]⟩
              case measure => simp [intOf]; omega
            · subst hwq
              go_wp2
              go_ret
              have h1 := HB.out.trans (Hbc.out.mono HB.out.size)
              exact ⟨rfl, ⟨h1.os, h1.tape, h1.output, h1.size, h1.block⟩⟩

theorem model_great (a : Option Addr) (L c0 : Nat) (t0 : Int) (w : World) (hL : ¬ L ≤ 1048576) :
    Calls Ybaf.prog 3 #[.int .u8 t0, .slice a L c0] w fun e w' => e = .returned (.bool true) ∧ Below w.heap.size w w' := by
  have hg : (1048576 : Int) < (L : Int) := by omega
  go_enter Ybaf.func3, Ybaf.ntmps3
  go_wp2
  go_ret
  exact ⟨rfl, Below.refl _ _⟩

set_option maxHeartbeats 1000000 in
set_option maxRecDepth 100000 in
theorem model_empty (bm : Nat) (a : Option Addr) (c0 : Nat) (t0 : Int) (w : World) (ht : 0 ≤ t0 ∧ t0 ≤ 255) (hT : Tbl w.heap.size bm w) :
    Calls Ybaf.prog 3 #[.int .u8 t0, .slice a 0 c0] w fun e w' => e = .returned (.bool true) ∧ Below w.heap.size w w' := by
  have hpay := payloads_any w.heap.size bm (rest (fun _ => 0) 0 64 t0 0 []) (fun _ => 0) 0 0 0 a c0 t0 (w.alloc (.cells #[.slice none 0 0, .int .u32 0, .int .u32 0, .slice none 0 0, .slice none 0 0, .slice none 0 0, .slice none 0 0, .slice none 0 0, .slice none 0 0] 37)) rfl (by omega) (Nat.zero_le _) (.inl rfl) ht
    (fun i hi => absurd hi (Nat.not_lt_zero _)) ⟨by simp, fun i hi => absurd hi (Nat.not_lt_zero _)⟩ (by have := hT.2.1; omega) (hT.below ((Below.refl _ _).alloc (Nat.le_refl _) _)) (dec_new w)
  have Hpay := hide hpay
  have hnil := fun (w : World) (a : Option Addr) (n c n' c' : Nat) => Lib.run_eql_slice_nil (P := Ybaf.prog) w 29 _ a n c n' c' Ybaf.underlying29
  clear hpay hT
  by_cases hz : t0 = 0
  · subst hz
    have HR : Hid (rest (fun _ => 0) 0 64 0 0 [] = .inr ([], 0)) := rest_zero rfl
    go_enter Ybaf.func3, Ybaf.ntmps3
    go_wp2
    refine wp_loop_rounds 1 ?_
    rw [rounds_succ]
    go_wp2_with fail
    refine Hpay.out.mono ?_
    rintro e w5 ⟨hres, _, hbel⟩
    obtain ⟨v, xs, rfl, hown, _⟩ := hres.2 [] 0 HR.out (by omega)
    have hvs : ∃ a c, v = .slice a 0 c := by
      rcases hown.2 with ⟨h, _⟩ | ⟨g, cap, cur, h, _⟩ <;> exact ⟨_, _, h⟩
    obtain ⟨av, cv, rfl⟩ := hvs
    have Hbel := hide hbel
    clear hres hown hbel Hpay
    go_wp2
    refine wp_loop_rounds 1 ?_
    rw [rounds_succ]
    go_wp2
    go_ret
    exact ⟨rfl, ((Below.refl _ _).alloc (Nat.le_refl _) _).trans Hbel.out⟩
  · have HR : Hid (rest (fun _ => 0) 0 64 t0 0 [] = .inl malformed) := rest_err hz (hdr_short (by omega)) (by omega)
    have hz' : (t0 == 0) = false := by simpa using hz
    clear hz
    go_enter Ybaf.func3, Ybaf.ntmps3
    go_wp2
    refine wp_loop_rounds 1 ?_
    rw [rounds_succ]
    go_wp2_with fail
    refine Hpay.out.mono ?_
    rintro e w5 ⟨hres, _, hbel⟩
    obtain ⟨g, rfl, hcg⟩ := hres.1 malformed (.inl HR.out)
    have Hcg := hide hcg
    have Hbel := hide hbel
    clear hres hbel hcg Hpay
    go_wp2_with fail
    refine (event_of g malformed w5 Hcg.out).mono ?_
    rintro e w6 ⟨rfl, rfl⟩
    have hmal : malformed = ⟨#[80, 65, 89, 76, 79, 65, 68, 32, 77, 65, 76, 70, 79, 82, 77, 69, 68]⟩ := rfl
    rw [hmal]
    clear hmal
    go_wp2
    go_ret
    exact ⟨rfl, ((Below.refl _ _).alloc (Nat.le_refl _) _).trans Hbel.out⟩

end Go.Proofs.YbulkblqcFmt
