/-
  THE WALK of 'wire.LawS3122AChain' over its callees' contracts.
-/
import Derived.Test.YbulkblqcFmtModel
import Derived.Test.YbulkblqcFmtEnc
namespace Go.Proofs.YbulkblqcFmt
open Go.RowKit

/-- A slice of octets that can be read. -/
def Src (w : World) (a : Option Addr) (c : Nat) (l : List Int) : Prop :=
  (a = none ∧ c = 0 ∧ l = []) ∨ ∃ ad, a = some ad ∧ ∀ j (h : j < l.length), w.cell? (ad.add j) = some (.int .u8 l[j])

theorem Src.below {w w' : World} {a : Option Addr} {c : Nat} {l : List Int} (h : Src w a c l) (hb : Below w.heap.size w w') : Src w' a c l := by
  rcases h with h | ⟨ad, rfl, h⟩
  · exact .inl h
  · exact .inr ⟨ad, rfl, fun j hj => (hb.cell (World.block_lt_of_cell? w _ (h j hj))).trans (h j hj)⟩

theorem info_parts5 : ∃ i0, Ybaf.prog.info? 5 = some i0 ∧ i0.zero = some (.int .u8 0) ∧ i0.size = 1 ∧ i0.bytes = 1 := by
  obtain ⟨i0, h, he⟩ := Option.map_eq_some_iff.1 (show (Ybaf.prog.info? 5).map (fun i => (i.zero, i.size, i.bytes)) = some (some (.int .u8 0), 1, 1) by kernel_rfl)
  simp only [Prod.mk.injEq] at he
  exact ⟨i0, h, he.1, he.2.1, he.2.2⟩

/-- Octets as cells. -/
def cells8 (l : List Int) : List Value := l.map (Value.int .u8)

theorem cells8_length (l : List Int) : (cells8 l).length = l.length := by simp [cells8]
theorem cells8_append (a b : List Int) : cells8 (a ++ b) = cells8 a ++ cells8 b := by simp [cells8]

theorem append_src (w : World) (ty : TypeId) (v : Value) (n : Nat) (xs : List Value) (hown : w.ownsRow 0 5 1 v n xs) (a : Option Addr) (c : Nat) (l : List Int) (hs : Src w a c l) (hsz : n + l.length ≤ 4194304) :
    ∃ v' w', (Builtin.append_ #[22, 22] ty #[v, .slice a l.length c]).run Ybaf.prog w = .ok v' w' ∧ w'.ownsRow 0 5 1 v' (n + l.length) (xs ++ cells8 l) ∧ w.grownBy w' v.ownBlock ∧ Moved w v v' := by
  obtain ⟨i0, hi, hz0, hz1, hz2⟩ := info_parts5
  rcases hs with ⟨rfl, rfl, rfl⟩ | ⟨ad, rfl, hc⟩
  · exact ⟨v, w, run_append_owned_none w 0 22 ty 5 i0 1 Ybaf.underlying22 hi v n xs hown, by simpa [cells8] using hown, grown_refl _ _, Moved.refl _ _⟩
  · refine append_moved w 22 ty 5 i0 (.int .u8 0) 1 1 Ybaf.underlying22 hi hz0 hz1 hz2 rfl (by decide) v n xs hown ad l.length c (cells8 l) (by simp [cells8]) (fun j u hj => ?_) (fun u hu => ?_) (by unfold maxLen; omega) (by omega)
    · have hjl : j < l.length := by have := (List.getElem?_eq_some_iff.1 hj).1; simpa [cells8] using this
      rw [hc j hjl]
      simpa [cells8, hjl] using hj
    · obtain ⟨x, _, rfl⟩ := List.mem_map.1 hu
      rfl

theorem wpList_append_src (w : World) {ops : Array Oper} {rest : List Oper} {o : Oper} {a : Act} {Q : Exit → Act → World → Prop} (hgd : o.guard = none) (s x : Operand)
    (ho : o.op = .call { callee := .builtin .append, args := #[s, x], argTypes := #[22, 22] })
    (v : Value) (n : Nat) (xs : List Value) (hs : a.eval s = v) (hown : w.ownsRow 0 5 1 v n xs) (ad : Option Addr) (c : Nat) (l : List Int) (hx : a.eval x = .slice ad l.length c) (hsrc : Src w ad c l) (hsz : n + l.length ≤ 4194304)
    (h : ∀ v' w', w'.ownsRow 0 5 1 v' (n + l.length) (xs ++ cells8 l) → w.grownBy w' v.ownBlock → Moved w v v' → wpList Ybaf.prog ops Q rest (a.put o.dst v') w') : wpList Ybaf.prog ops Q (o :: rest) a w :=
  wpList_plain hgd fun K hK => by
    obtain ⟨v', w', hr, h2, h3, h4⟩ := append_src w o.type v n xs hown ad c l hsrc hsz
    unfold Oper.wp execOp
    simp only [ho, resolve, invoke, builtin, Sem.run_bind, Sem.run_pure, Result.andThen_ok, List.map_toArray, List.map_cons, List.map_nil, hs, hx, hr]
    exact hK _ _ (h v' w' h2 h3 h4)

/-- What is known of the items. -/
def ItemsAt (w : World) (b off n : Nat) (T : Nat → Int) (A : Nat → Option Addr) (C : Nat → Nat) (bd : Nat → List Int) : Prop :=
  ∀ i, i < n → w.cell? ⟨b, off + i * 2, none⟩ = some (.int .u8 (T i)) ∧ w.cell? ⟨b, off + i * 2 + 1, none⟩ = some (.slice (A i) (bd i).length (C i)) ∧ Src w (A i) (C i) (bd i) ∧ (0 ≤ T i ∧ T i ≤ 255) ∧ ∀ x ∈ bd i, 0 ≤ x ∧ x ≤ 255

theorem ItemsAt.below {w w' : World} {b off n : Nat} {T : Nat → Int} {A : Nat → Option Addr} {C : Nat → Nat} {bd : Nat → List Int} (h : ItemsAt w b off n T A C bd) (hb : Below w.heap.size w w') : ItemsAt w' b off n T A C bd := fun i hi => by
  obtain ⟨h1, h2, h3, h4, h5⟩ := h i hi
  exact ⟨(hb.cell (World.block_lt_of_cell? w _ h1)).trans h1, (hb.cell (World.block_lt_of_cell? w _ h2)).trans h2, h3.below hb, h4, h5⟩

/-- The buffer, k items encoded. -/
def BufAt (w wr : World) (v : Value) (l : List Int) : Prop := wr.ownsRow 0 5 1 v l.length (cells8 l) ∧ Hi w.heap.size v ∧ Below w.heap.size w wr

theorem cell4_new (w : World) (a b c d : Value) (t : TypeId) : ∀ (j : Nat) (u : Value), [a, b, c, d][j]? = some u → (w.alloc (.cells #[a, b, c, d] t)).cell? ((⟨w.heap.size, 0, none⟩ : Addr).add j) = some u := by
  intro j u hj
  rw [Addr.add_lit, Nat.zero_add, World.cell?_alloc_new]
  simpa using hj

theorem one8 (l : List Int) : ∀ u ∈ cells8 l, u.oneCell' = true := fun u hu => by
  obtain ⟨x, _, rfl⟩ := List.mem_map.1 hu
  rfl

theorem buf_max {n : Nat} (h : n ≤ 1049600) : n + 4 ≤ maxLen := by unfold maxLen; omega
theorem buf_bytes {n : Nat} (h : n ≤ 1049600) : (n + 4) * 1 ≤ 140737488355328 := by omega
theorem buf_src {l x : List Int} {a b c d : Int} (h : l.length ≤ 1049600) (hx : x.length ≤ 4096) : (l ++ [a, b, c, d]).length + x.length ≤ 4194304 := by simp; omega
theorem buf_tail {l x : List Int} (h : l.length ≤ 1049600) (hx : x.length ≤ 4096) : l.length + x.length ≤ 4194304 := by omega

theorem BufAt.app {w wq w2 : World} {v v' : Value} {l x : List Int} {o : Obj} {n : Nat} (h : BufAt w wq v l) (ho : w2.ownsRow 0 5 1 v' n (cells8 l ++ cells8 x)) (hg : (wq.alloc o).grownBy w2 v.ownBlock) (hm : Moved (wq.alloc o) v v') : BufAt w w2 v' (l ++ x) := by
  refine ⟨?_, hi_moved h.2.1 hm (by have := h.2.2.size; simp; omega), below_app h.2.2 (Nat.le_refl _) h.2.1 hg⟩
  have := own_len ho
  rw [← cells8_append, cells8_length] at this
  exact this

theorem BufAt.app' {w wq w2 : World} {v v' : Value} {l x : List Int} {n : Nat} (h : BufAt w wq v l) (ho : w2.ownsRow 0 5 1 v' n (cells8 l ++ cells8 x)) (hg : wq.grownBy w2 v.ownBlock) (hm : Moved wq v v') : BufAt w w2 v' (l ++ x) := by
  refine ⟨?_, hi_moved h.2.1 hm h.2.2.size, h.2.2.grown hg h.2.2.size h.2.1⟩
  have := own_len ho
  rw [← cells8_append, cells8_length] at this
  exact this

theorem buf_next {w w3 : World} {v : Value} {n j : Nat} {nx : Int} {code : Nat → Int} {bd : Nat → List Int} (hnx : nxt n code j = nx) (h : BufAt w w3 v (pre n code bd j ++ [nx, 0, (4 + ((bd j).length : Int)) / 256, (4 + ((bd j).length : Int)) % 256] ++ bd j)) :
    BufAt w w3 v (pre n code bd (j + 1)) := by
  have e : pre n code bd (j + 1) = pre n code bd j ++ [nx, 0, (4 + ((bd j).length : Int)) / 256, (4 + ((bd j).length : Int)) % 256] ++ bd j := by
    show pre n code bd j ++ enc1 (nxt n code j) (bd j) = _
    rw [hnx, List.append_assoc]
    simp [enc1]
  rw [e]
  exact h

/-- The buffer, opened. -/
theorem buf_open {w wr : World} {v : Value} {l : List Int} (h : BufAt w wr v l) (h0 : 0 < wr.heap.size) :
    ∃ g a c, v = .slice a l.length c ∧ (l.length = 0 ∨ a = some ⟨g, 0, none⟩) ∧ l.length ≤ c ∧ Octets g 0 l.length (fun j => l.getD j 0) wr := by
  rcases h.1.2 with ⟨hv, h1⟩ | ⟨g, cap, cur, hv, hb, hg, hnc, hc, hs, htk⟩
  · have e : l.length = 0 := by simpa using h1
    exact ⟨0, none, 0, by rw [hv, e], .inl e, by omega, h0, fun i hi => by omega⟩
  · refine ⟨g, some ⟨g, 0, none⟩, cap, hv, .inr rfl, hnc, (h.1.lt g (by rw [hv]; rfl)).2, fun i hi => ?_⟩
    have := World.ownsRow.cellAt (hv ▸ h.1) i (by omega)
    rw [Nat.zero_add, this]
    simp [cells8, hi]

theorem octs_pre {n : Nat} {code : Nat → Int} {bd : Nat → List Int} (hc : ∀ i, 0 ≤ code i ∧ code i ≤ 255) (hb : ∀ i, i < n → (bd i).length ≤ 4096) (hx : ∀ i, i < n → ∀ x ∈ bd i, 0 ≤ x ∧ x ≤ 255) :
    ∀ k, k ≤ n → ∀ x ∈ pre n code bd k, 0 ≤ x ∧ x ≤ 255
  | 0, _, x, h => by simp [pre] at h
  | k + 1, hk, x, h => by
    have hl := hb k (by omega)
    rcases List.mem_append.1 h with h | h
    · exact octs_pre hc hb hx k (by omega) x h
    · rcases List.mem_append.1 h with h | h
      · simp only [List.mem_cons, List.not_mem_nil, or_false] at h
        rcases h with rfl | rfl | rfl | rfl
        · unfold nxt
          split
          · exact hc _
          · omega
        · omega
        · omega
        · omega
      · exact hx k (by omega) x h

theorem ptype_bounds (x : Int) : 0 ≤ ptype x ∧ ptype x ≤ 255 := by
  unfold ptype
  split <;> omega

/-- What the parser makes of the law's buffer. -/
def Rch (n : Nat) (T : Nat → Int) (bd : Nat → List Int) : Sum ByteArray (List (Int × Nat × Nat) × Nat) :=
  if n ≤ 64 then .inr ((List.range n).map (itm n (fun i => ptype (T i)) bd), (pre n (fun i => ptype (T i)) bd n).length) else .inl malformed

/-- The decoder between two rounds. -/
def Crnd (dk n : Nat) (wd wq : World) : Prop := Below dk wd wq ∧ Dec dk wq ∧ (¬ n ≤ 64 → wq.cell? ⟨dk, 0, none⟩ = some (.slice none 0 0))

theorem Crnd.drewN {dk n : Nat} {wd wq : World} (h : Crnd dk n wd wq) (m : Nat) : Crnd dk n wd (wq.drewN m) :=
  ⟨⟨h.1.os, h.1.tape, h.1.output, h.1.size, h.1.block⟩, h.2.1, h.2.2⟩

/-- One call of Payloads on the law's buffer. -/
theorem pay_round (l : List Int) (fst : Int) (bm n g : Nat) (a : Option Addr) (c : Nat) (tl : List Int) (T : Nat → Int) (bd : Nat → List Int) (dk : Nat) (wd wq : World)
    (hl : l = pre n (fun i => ptype (T i)) bd n ++ tl) (hfst : fst = if 0 < n then ptype (T 0) else 0) (hn : n ≤ 256) (hbl : ∀ j, j < n → (bd j).length ≤ 4096) (htl : tl.length ≤ 4096) (hx : ∀ i, i < n → ∀ x ∈ bd i, 0 ≤ x ∧ x ≤ 255) (htb : ∀ x ∈ tl, 0 ≤ x ∧ x ≤ 255)
    (ha : l.length = 0 ∨ a = some ⟨g, 0, none⟩) (hc : l.length ≤ c)
    (hO : Octets g 0 l.length (fun j => l.getD j 0) wd) (hg : g < dk) (hT : Tbl dk bm wd) (hr : Crnd dk n wd wq) :
    Calls Ybaf.prog 7 #[.pointer (some ⟨dk, 0, none⟩), .int .u8 fst, .slice a l.length c] wq fun e w' =>
      PayRes (Rch n T bd) g 0 l.length e w' ∧ Crnd dk n wd w' ∧ Below dk wq w' := by
  subst hl hfst
  have hR : Rch n T bd = _ := (rest_chain (n := n) (code := fun i => ptype (T i)) (bd := bd) tl (fun i _ => ptype_assigned _)).symm
  have hpl := pre_length_le (n := n) (code := fun i => ptype (T i)) hbl n (Nat.le_refl _)
  refine (payloads_full dk bm (Rch n T bd) _ g 0 _ a c _ wq hR (by simp only [List.length_append]; omega) hc ha ?_ (fun i hi => ?_) ⟨Nat.lt_of_lt_of_le hO.1 hr.1.size, fun i hi => (hr.1.cell (p := ⟨g, 0 + i, none⟩) hg).trans (hO.2 i hi)⟩ hg (hT.below hr.1) hr.2.1).mono ?_
  · split
    · exact ptype_bounds _
    · omega
  · rw [List.getD_eq_getElem?_getD, List.getElem?_eq_getElem hi]
    rcases List.mem_append.1 (List.getElem_mem hi) with h | h
    · exact octs_pre (fun i => ptype_bounds _) hbl hx n (Nat.le_refl _) _ h
    · exact htb _ h
  · rintro e w' ⟨h1, h2, h3, h4⟩
    refine ⟨h1, ⟨hr.1.trans h3, h2 ?_, fun h => ?_⟩, h3⟩
    · by_cases h : n ≤ 64
      · exact .inr ⟨_, _, by unfold Rch; rw [if_pos h]⟩
      · exact .inl (hr.2.2 h)
    · rw [h4 malformed (by unfold Rch; rw [if_neg h])]
      exact hr.2.2 h

theorem own_open {w : World} {e : TypeId} {s n : Nat} {v : Value} {xs : List Value} (h : w.ownsRow 0 e s v n xs) :
    ∃ g a c, v = .slice a n c ∧ (n = 0 ∨ a = some ⟨g, 0, none⟩) ∧ ∀ j, j < n * s → w.cell? ⟨g, j, none⟩ = xs[j]? := by
  rcases Nat.eq_zero_or_pos n with h0 | h0
  · subst h0
    rcases h.2 with ⟨hv, _⟩ | ⟨g, cap, cur, hv, _⟩
    · exact ⟨0, none, 0, hv, .inl rfl, fun j hj => by simp at hj⟩
    · exact ⟨0, _, _, hv, .inl rfl, fun j hj => by simp at hj⟩
  · obtain ⟨g, c, hv, hc⟩ := own_pos h h0
    exact ⟨g, _, c, hv, .inr rfl, hc⟩

/-- A payload's body against its item's. -/
theorem eq_item (g s c1 c2 : Nat) (a1 a2 : Option Addr) (l : List Int) (w : World) (hn : l.length ≤ 1048576) (hO : ∀ i, i < l.length → w.cell? ⟨g, s + i, none⟩ = some (.int .u8 (l.getD i 0)))
    (h1 : l.length = 0 ∨ a1 = some ⟨g, s, none⟩) (h2 : Src w a2 c2 l) (m : Nat) :
    Calls Ybaf.prog 9 #[.slice a1 l.length c1, .slice a2 l.length c2] (w.drewN m) fun e w' => e = .returned (.bool true) ∧ ∃ k, w' = (w.drewN m).drewN k := by
  by_cases h0 : l.length = 0
  · rw [h0]
    exact eq_none _ _ _ _ _
  · obtain rfl := h1.resolve_left h0
    rcases h2 with ⟨_, _, h2⟩ | ⟨⟨g2, o2, sp⟩, rfl, h2⟩
    · exact absurd (by rw [h2]; rfl) h0
    · have hsp : sp = none := by simpa [Addr.add] using World.cell?_spot (h2 0 (by omega))
      subst hsp
      simp only [Addr.add_lit] at h2
      exact eq_some g s g2 o2 l.length c1 c2 (fun i => l.getD i 0) _ hn hO (fun i hi => (h2 i hi).trans (by simp [hi]))

/-- What item j reads as, its payload beside it. -/
theorem item_facts {n g gp b off : Nat} {T : Nat → Int} {A : Nat → Option Addr} {C : Nat → Nat} {bd : Nat → List Int} {tl l : List Int} {xs : List Value} {w5 : World} (hl : l = pre n (fun i => ptype (T i)) bd n ++ tl)
    (hpays : Pays g 0 ((List.range n).map (itm n (fun i => ptype (T i)) bd)) xs) (hcp : ∀ j, j < n * 2 → w5.cell? ⟨gp, j, none⟩ = xs[j]?) (hO : Octets g 0 l.length (fun j => l.getD j 0) w5) (hI : ItemsAt w5 b off n T A C bd)
    (hbl : ∀ j, j < n → (bd j).length ≤ 4096) (j : Nat) (hj : j < n) (m0 : Nat) :
    ∃ ab cb, (w5.drewN m0).cell? ⟨gp, j * 2, none⟩ = some (.int .u8 (ptype (T j))) ∧ (w5.drewN m0).cell? ⟨gp, j * 2 + 1, none⟩ = some (.slice ab (bd j).length cb) ∧
      (w5.drewN m0).cell? ⟨b, off + j * 2, none⟩ = some (.int .u8 (T j)) ∧ (w5.drewN m0).cell? ⟨b, off + j * 2 + 1, none⟩ = some (.slice (A j) (bd j).length (C j)) ∧ (0 ≤ T j ∧ T j ≤ 255) ∧
      ∀ m, Calls Ybaf.prog 9 #[.slice ab (bd j).length cb, .slice (A j) (bd j).length (C j)] ((w5.drewN m0).drewN m) fun e w' => e = .returned (.bool true) ∧ ∃ k, w' = ((w5.drewN m0).drewN m).drewN k := by
  subst hl
  obtain ⟨i0, i1, i2, i3, _⟩ := hI j hj
  obtain ⟨p0, vb, p1, ab, cb, rfl, hab⟩ := hpays j (by simpa using hj)
  have e : ((List.range n).map (itm n (fun i => ptype (T i)) bd))[j]'(by simpa using hj) = itm n (fun i => ptype (T i)) bd j := by simp
  rw [e] at p0 p1 hab
  have e2 : (itm n (fun i => ptype (T i)) bd j).2.2 - (itm n (fun i => ptype (T i)) bd j).2.1 = (bd j).length := by show (pre n _ bd j).length + (4 + (bd j).length) - ((pre n _ bd j).length + 4) = _; omega
  rw [e2] at p1 hab
  have hlen : (pre n (fun i => ptype (T i)) bd j).length + (4 + (bd j).length) ≤ (pre n (fun i => ptype (T i)) bd n ++ tl).length := by
    obtain ⟨s, hs⟩ := pre_split (n := n) (code := fun i => ptype (T i)) (bd := bd) (n - (j + 1)) (j + 1)
    have e : j + 1 + (n - (j + 1)) = n := by omega
    rw [e] at hs
    rw [hs, List.length_append, List.length_append, pre_length_succ]
    omega
  have c0 := (hcp (2 * j) (by omega)).trans p0
  have c1 := (hcp (2 * j + 1) (by omega)).trans p1
  rw [Nat.mul_comm] at c0 c1
  refine ⟨ab, cb, c0, c1, i0, i1, i3, fun m => ?_⟩
  refine eq_item g (0 + ((pre n (fun i => ptype (T i)) bd j).length + 4)) cb (C j) ab (A j) (bd j) (w5.drewN m0) (by have := hbl j hj; omega) (fun i hi => ?_) hab i2 m
  have h1 := hO.2 ((pre n (fun i => ptype (T i)) bd j).length + 4 + i) (by omega)
  have h2 := octet_at (n := n) (code := fun i => ptype (T i)) (bd := bd) tl j hj (4 + i) (by omega)
  rw [enc1_body] at h2
  rw [← h2, Nat.add_assoc 0, ← Nat.add_assoc _ 4 i]
  exact h1

set_option maxHeartbeats 1000000 in
set_option maxRecDepth 100000 in
theorem chain_some (bm b off n ci : Nat) (ai at' : Option Addr) (ct : Nat) (tl : List Int) (T : Nat → Int) (A : Nat → Option Addr) (C : Nat → Nat) (bd : Nat → List Int) (w : World)
    (hn : n ≤ 256) (hai : n = 0 ∨ ai = some ⟨b, off, none⟩) (hI : ItemsAt w b off n T A C bd) (htl : tl.length ≤ 4096) (hS : Src w at' ct tl) (htb : ∀ x ∈ tl, 0 ≤ x ∧ x ≤ 255) (hT : Tbl w.heap.size bm w) :
    Calls Ybaf.prog 4 #[.slice ai n ci, .slice at' tl.length ct] w fun e w' => e = .returned (.bool true) ∧ Below w.heap.size w w' := by
  have HI := hide hI
  have HS := hide hS
  have HT := hide hT
  have Htb := hide htb
  clear hI hS hT htb
  go_enter Ybaf.func4, Ybaf.ntmps4
  go_wp2
  go_loopw [5] (fun i wr => ∃ k : Nat, k ≤ n ∧ i = .int .i64 k ∧ w = wr ∧ ∀ j, j < k → (bd j).length ≤ 4096) (fun i _ => n - (intOf i).toNat)
  case atStart => exact ⟨0, Nat.zero_le _, rfl, rfl, fun j hj => absurd hj (Nat.not_lt_zero _)⟩
  case round =>
    obtain ⟨k, hk, rfl, rfl, hbl⟩ := hrel
    by_cases hlt : k < n
    · obtain rfl : ai = some ⟨b, off, none⟩ := hai.resolve_left (by omega)
      obtain ⟨c0, c1, _⟩ := HI.out k hlt
      have Hbl := hide hbl
      clear hbl
      by_cases hb4 : (bd k).length ≤ 4096
      · go_wp2
        go_roundw
        case rel => exact ⟨k + 1, by omega, by go_num, by first | rfl | trivial, fun j hj => by
          by_cases e : j = k
          · subst e; exact hb4
          · exact Hbl.out j (by omega)⟩
        case measure => simp [intOf]; omega
      · have hb5 : (4096 : Int) < ((bd k).length : Int) := by omega
        go_wp2
        go_ret
        exact ⟨rfl, Below.refl _ _⟩
    · obtain rfl : n = k := by omega
      have Hbl := hide hbl
      clear hbl
      go_wp2
      go_loopw [6, 7] (fun v6 v7 wq => ∃ j : Nat, j ≤ n ∧ v7 = .int .i64 j ∧ BufAt w wq v6 (pre n (fun i => ptype (T i)) bd j)) (fun _ v7 _ => n - (intOf v7).toNat)
      case atStart => exact ⟨0, Nat.zero_le _, rfl, World.ownsRow_nil _ _ _ _, hi_nil _, Below.refl _ _⟩
      case round =>
        obtain ⟨j, hj, rfl, hbuf⟩ := hrel
        have Hbuf := hide hbuf
        have hIr := HI.out.below hbuf.2.2
        have HIr := hide hIr
        clear hbuf hIr
        by_cases hlt : j < n
        · obtain rfl : ai = some ⟨b, off, none⟩ := hai.resolve_left (by omega)
          obtain ⟨c0, c1, csrc, ⟨T0, T1⟩, _⟩ := HIr.out j hlt
          have Hsrc := hide csrc
          have hbj := Hbl.out j hlt
          clear csrc
          by_cases hj1 : j + 1 < n
          · have hj2 : (j : Int) + 1 < (n : Int) := by omega
            obtain ⟨n0, _, _, ⟨U0, U1⟩, _⟩ := HIr.out (j + 1) hj1
            have Hnx : Hid (nxt n (fun i => ptype (T i)) j = ptype (T (j + 1))) := by show nxt _ _ _ = _; unfold nxt; rw [if_pos hj1]
            have hpl : (pre n (fun i => ptype (T i)) bd j).length ≤ 1049600 := by have := pre_length_le (n := n) (code := fun i => ptype (T i)) Hbl.out j hj; omega
            obtain ⟨i0, hi, hz0, hz1, hz2⟩ := info_parts5
            go_wp2_with fail
            refine (type_any (T (j + 1)) _ U0 U1).mono ?_
            rintro e w1 ⟨rfl, rfl⟩
            go_wp2_with (at_builtin; refine wpList_append_moved _ rfl _ _ 22 rfl 5 i0 (.int .u8 0) 1 1 Ybaf.underlying22 hi hz0 hz1 hz2 rfl (by decide) _ _ _ rfl (Hbuf.out.1.alloc _) ⟨w1.heap.size, 0, none⟩ 4 4 (cells8 [ptype (T (j + 1)), 0, (4 + ((bd j).length : Int)) / 256, (4 + ((bd j).length : Int)) % 256]) rfl rfl (cell4_new _ _ _ _ _ _) (one8 _) (buf_max hpl) (buf_bytes hpl) ?_)
            intro v2 w2 ho2 hg2 hm2
            have Hbuf2 := hide (Hbuf.out.app ho2 hg2 hm2)
            obtain ⟨_, d1, dsrc, _, _⟩ := HI.out.below Hbuf2.out.2.2 j hlt
            have Hds := hide dsrc
            clear ho2 hg2 hm2 dsrc c0 c1
            go_wp2_with (at_builtin; refine wpList_append_src _ rfl _ _ rfl _ _ _ rfl Hbuf2.out.1 (A j) (C j) (bd j) rfl Hds.out (buf_src hpl hbj) ?_)
            intro v3 w3 ho3 hg3 hm3
            have Hbuf3 := hide (Hbuf2.out.app' ho3 hg3 hm3)
            clear ho3 hg3 hm3
            go_wp2
            go_roundw
            case rel => exact ⟨j + 1, by omega, by go_num, buf_next Hnx.out Hbuf3.out⟩
            case measure => simp [intOf]; omega
          · have hj2 : ¬ (j : Int) + 1 < (n : Int) := by omega
            have Hnx : Hid (nxt n (fun i => ptype (T i)) j = 0) := by show nxt _ _ _ = _; unfold nxt; rw [if_neg hj1]
            have hpl : (pre n (fun i => ptype (T i)) bd j).length ≤ 1049600 := by have := pre_length_le (n := n) (code := fun i => ptype (T i)) Hbl.out j hj; omega
            obtain ⟨i0, hi, hz0, hz1, hz2⟩ := info_parts5
            go_wp2_with (at_builtin; refine wpList_append_moved _ rfl _ _ 22 rfl 5 i0 (.int .u8 0) 1 1 Ybaf.underlying22 hi hz0 hz1 hz2 rfl (by decide) _ _ _ rfl (Hbuf.out.1.alloc _) ⟨wr.heap.size, 0, none⟩ 4 4 (cells8 [0, 0, (4 + ((bd j).length : Int)) / 256, (4 + ((bd j).length : Int)) % 256]) rfl rfl (cell4_new _ _ _ _ _ _) (one8 _) (buf_max hpl) (buf_bytes hpl) ?_)
            intro v2 w2 ho2 hg2 hm2
            have Hbuf2 := hide (Hbuf.out.app ho2 hg2 hm2)
            obtain ⟨_, d1, dsrc, _, _⟩ := HI.out.below Hbuf2.out.2.2 j hlt
            have Hds := hide dsrc
            clear ho2 hg2 hm2 dsrc c0 c1
            go_wp2_with (at_builtin; refine wpList_append_src _ rfl _ _ rfl _ _ _ rfl Hbuf2.out.1 (A j) (C j) (bd j) rfl Hds.out (buf_src hpl hbj) ?_)
            intro v3 w3 ho3 hg3 hm3
            have Hbuf3 := hide (Hbuf2.out.app' ho3 hg3 hm3)
            clear ho3 hg3 hm3
            go_wp2
            go_roundw
            case rel => exact ⟨j + 1, by omega, by go_num, buf_next Hnx.out Hbuf3.out⟩
            case measure => simp [intOf]; omega
        · obtain rfl : n = j := by omega
          have hpl : (pre n (fun i => ptype (T i)) bd n).length ≤ 1049600 := by have := pre_length_le (n := n) (code := fun i => ptype (T i)) Hbl.out n hj; omega
          have hSr := HS.out.below Hbuf.out.2.2
          have HSr := hide hSr
          clear hSr
          go_upto_if 83 with (at_builtin; refine wpList_append_src _ rfl _ _ rfl _ _ _ rfl Hbuf.out.1 at' ct tl rfl HSr.out (buf_tail hpl htl) ?_; intro v4 w4 ho4 hg4 hm4; have Hbuf4 := hide (Hbuf.out.app' ho4 hg4 hm4); clear ho4 hg4 hm4)
          obtain ⟨l4, hl4⟩ : ∃ l4, l4 = pre n (fun i => ptype (T i)) bd n ++ tl := ⟨_, rfl⟩
          obtain ⟨fst, hfst⟩ : ∃ fst, fst = if 0 < n then ptype (T 0) else 0 := ⟨_, rfl⟩
          rw [← hl4] at Hbuf4
          have Hl4 := hide hl4
          have Hfst := hide hfst
          clear hl4 hfst
          go_cut [10] (fun v10 wx => v10 = .int .u8 fst ∧ wx = w4)
          case first =>
            by_cases h0 : 0 < n
            · obtain rfl : ai = some ⟨b, off, none⟩ := hai.resolve_left (by omega)
              obtain ⟨c0, _, _, ⟨T0, T1⟩, _⟩ := HI.out.below Hbuf4.out.2.2 0 h0
              rw [Nat.zero_mul, Nat.add_zero] at c0
              go_wp2_with fail
              refine (type_any (T 0) _ T0 T1).mono ?_
              rintro e w1 ⟨rfl, rfl⟩
              go_wp2
              go_meet
              case rel => exact ⟨by rw [Hfst.out, if_pos h0], rfl⟩
            · go_wp2
              go_meet
              case rel => exact ⟨by rw [Hfst.out, if_neg h0], rfl⟩
          case rest =>
            obtain ⟨rfl, rfl⟩ := hcut
            have Hx : Hid (∀ i, i < n → ∀ x ∈ bd i, 0 ≤ x ∧ x ≤ 255) := fun i hi => (HI.out i hi).2.2.2.2
            have hT4 : Tbl wc.heap.size bm wc := (HT.out.below Hbuf4.out.2.2).up Hbuf4.out.2.2.size (Nat.le_refl _)
            obtain ⟨g, av, cv, rfl, hav, hcv, hO⟩ := buf_open Hbuf4.out (by have := hT4.2.1; omega)
            have hcall := fun wq hr => pay_round l4 fst bm n g av cv tl T bd wc.heap.size (wc.alloc (.cells #[.slice none 0 0, .int .u32 0, .int .u32 0, .slice none 0 0, .slice none 0 0, .slice none 0 0, .slice none 0 0, .slice none 0 0, .slice none 0 0] 37)) wq Hl4.out Hfst.out hn Hbl.out htl Hx.out Htb.out hav hcv (hO.grown (World.grownBy_alloc wc _ none) (by simp)) hO.1 (hT4.below ((Below.refl _ _).alloc (Nat.le_refl _) _)) hr
            have hstart : Crnd wc.heap.size n (wc.alloc (.cells #[.slice none 0 0, .int .u32 0, .int .u32 0, .slice none 0 0, .slice none 0 0, .slice none 0 0, .slice none 0 0, .slice none 0 0, .slice none 0 0] 37)) (wc.alloc (.cells #[.slice none 0 0, .int .u32 0, .int .u32 0, .slice none 0 0, .slice none 0 0, .slice none 0 0, .slice none 0 0, .slice none 0 0, .slice none 0 0] 37)) :=
              ⟨Below.refl _ _, dec_new wc, fun _ => by simp⟩
            have Hcall := hide hcall
            have Hstart := hide hstart
            have HO := hide hO
            have hbd : Below w.heap.size w (wc.alloc (.cells #[.slice none 0 0, .int .u32 0, .int .u32 0, .slice none 0 0, .slice none 0 0, .slice none 0 0, .slice none 0 0, .slice none 0 0, .slice none 0 0] 37)) := Hbuf4.out.2.2.alloc Hbuf4.out.2.2.size _
            have Hbd := hide hbd
            have hnil := fun (w : World) (a : Option Addr) (n c n' c' : Nat) => run_neq_slice_nil_any (P := Ybaf.prog) w 29 _ a n c n' c' Ybaf.underlying29
            clear hcall hstart hO hT4 hav hcv hbd
            go_wp2_with fail
            go_loopw [12] (fun v12 wq => ∃ r : Nat, r ≤ 2 ∧ v12 = .int .i64 r ∧ Crnd wc.heap.size n (wc.alloc (.cells #[.slice none 0 0, .int .u32 0, .int .u32 0, .slice none 0 0, .slice none 0 0, .slice none 0 0, .slice none 0 0, .slice none 0 0, .slice none 0 0] 37)) wq) (fun v12 _ => 2 - (intOf v12).toNat)
            case atStart => exact ⟨0, by omega, rfl, Hstart.out⟩
            case round =>
              obtain ⟨r, hr2, rfl, hr⟩ := hrel
              have Hr := hide hr
              clear hr
              by_cases hlt2 : r < 2
              · go_wp2_with fail
                refine (Hcall.out wr Hr.out).mono ?_
                rintro e w5 ⟨hres, hr5, hb5⟩
                by_cases h64 : n ≤ 64
                · have HR : Hid (Rch n T bd = .inr ((List.range n).map (itm n (fun i => ptype (T i)) bd), (pre n (fun i => ptype (T i)) bd n).length)) := by show Rch n T bd = _; unfold Rch; rw [if_pos h64]
                  have h64' : ¬ 64 < (n : Int) := by omega
                  by_cases htl0 : tl.length = 0
                  · have htl' : decide (0 < tl.length) = false := decide_eq_false (by omega)
                    obtain ⟨v, xs, rfl, hown, hpays⟩ := hres.2 _ _ HR.out (by rw [Hl4.out, List.length_append]; omega)
                    rw [List.length_map, List.length_range] at hown
                    obtain ⟨gp, ap, cp, rfl, hap, hcp⟩ := own_open hown
                    have hw5 : Below w.heap.size w w5 := Hbd.out.trans (hr5.1.mono Hbuf4.out.2.2.size)
                    have hO5 : Octets g 0 l4.length (fun j => l4.getD j 0) w5 := ⟨Nat.lt_of_lt_of_le HO.out.1 (Nat.le_trans (by simp) hr5.1.size), fun i hi => (hr5.1.cell (p := ⟨g, 0 + i, none⟩) HO.out.1).trans ((HO.out.grown (World.grownBy_alloc wc _ none) (by simp)).2 i hi)⟩
                    have hfacts := fun j hj m0 => item_facts (b := b) (off := off) (A := A) (C := C) (w5 := w5) Hl4.out hpays hcp hO5 (HI.out.below hw5) Hbl.out j hj m0
                    have Hfacts := hide hfacts
                    have Hr5 := hide hr5
                    clear hres hr5 hb5 hown hpays hcp hO5 hfacts hw5 htl0
                    go_wp2_with fail
                    go_loopw [15] (fun i wq => ∃ j m : Nat, j ≤ n ∧ i = .int .i64 j ∧ wq = w5.drewN m) (fun i _ => n - (intOf i).toNat)
                    case atStart => exact ⟨0, 0, Nat.zero_le _, rfl, rfl⟩
                    case round =>
                      obtain ⟨j, m, hj, rfl, hwq⟩ := hrel
                      by_cases hltj : j < n
                      · obtain rfl : ai = some ⟨b, off, none⟩ := hai.resolve_left (by omega)
                        obtain rfl : ap = some ⟨gp, 0, none⟩ := hap.resolve_left (by omega)
                        have hf := Hfacts.out j hltj m
                        rw [← hwq] at hf
                        obtain ⟨ab, cb, d0, d1, e0, e1, ⟨T0, T1⟩, heq⟩ := hf
                        have Heq := hide heq
                        have Hwq := hide hwq
                        clear heq hwq
                        go_wp2_with fail
                        go_quiet (first | (go_at_call 10; exact Calls.quiet_of ((type_any (T j) _ T0 T1).mono (fun e w' h => ⟨h.1, 0, h.2⟩))) | (go_at_call 9; exact Calls.quiet_of (Heq.out _)))
                        go_wp2
                        go_roundw
                        case rel => exact ⟨j + 1, _, by omega, by go_num, by rw [Hwq.out, World.drewN_drewN]⟩
                        case measure => simp [intOf]; omega
                      · subst hwq
                        go_wp2
                        go_roundw
                        case rel => exact ⟨r + 1, by omega, by go_num, Hr5.out.drewN _⟩
                        case measure => simp [intOf]; omega
                  · have htl' : 0 < (tl.length : Int) := by omega
                    obtain ⟨ge, rfl, hcg⟩ := hres.1 malformed (.inr ⟨rfl, _, _, HR.out, by rw [Hl4.out, List.length_append]; omega⟩)
                    have Hcg := hide hcg
                    have Hr5 := hide hr5
                    clear hres hr5 hb5 hcg
                    go_wp2_with fail
                    refine (event_of ge malformed w5 Hcg.out).mono ?_
                    rintro e w6 ⟨rfl, rfl⟩
                    have hmal : malformed = ⟨#[80, 65, 89, 76, 79, 65, 68, 32, 77, 65, 76, 70, 79, 82, 77, 69, 68]⟩ := rfl
                    rw [hmal]
                    clear hmal
                    go_wp2
                    go_roundw
                    case rel => exact ⟨r + 1, by omega, by go_num, Hr5.out⟩
                    case measure => simp [intOf]; omega
                · have h64' : 64 < (n : Int) := by omega
                  obtain ⟨ge, rfl, hcg⟩ := hres.1 malformed (.inl (by unfold Rch; rw [if_neg h64]))
                  have Hcg := hide hcg
                  have Hr5 := hide hr5
                  clear hres hr5 hb5 hcg
                  go_wp2_with fail
                  refine (event_of ge malformed w5 Hcg.out).mono ?_
                  rintro e w6 ⟨rfl, rfl⟩
                  have hmal : malformed = ⟨#[80, 65, 89, 76, 79, 65, 68, 32, 77, 65, 76, 70, 79, 82, 77, 69, 68]⟩ := rfl
                  rw [hmal]
                  clear hmal
                  go_wp2
                  go_roundw
                  case rel => exact ⟨r + 1, by omega, by go_num, Hr5.out⟩
                  case measure => simp [intOf]; omega
              · obtain rfl : 2 = r := by omega
                go_wp2
                go_ret
                exact ⟨rfl, Hbd.out.trans (Hr.out.1.mono Hbuf4.out.2.2.size)⟩

theorem chain_great (ai at' : Option Addr) (n ci m ct : Nat) (w : World) (h : ¬ (n ≤ 256 ∧ m ≤ 4096)) :
    Calls Ybaf.prog 4 #[.slice ai n ci, .slice at' m ct] w fun e w' => e = .returned (.bool true) ∧ Below w.heap.size w w' := by
  by_cases h1 : n ≤ 256
  · have h2 : (4096 : Int) < (m : Int) := by omega
    have h3 : ¬ (256 : Int) < (n : Int) := by omega
    go_enter Ybaf.func4, Ybaf.ntmps4
    go_wp2
    go_ret
    exact ⟨rfl, Below.refl _ _⟩
  · have h2 : (256 : Int) < (n : Int) := by omega
    go_enter Ybaf.func4, Ybaf.ntmps4
    go_wp2
    go_ret
    exact ⟨rfl, Below.refl _ _⟩

end Go.Proofs.YbulkblqcFmt
