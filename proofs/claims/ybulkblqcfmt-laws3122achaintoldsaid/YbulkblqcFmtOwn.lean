/-
  'append' ON A ROW OF THE CALL's OWN, AND IN WHICH BLOCK THE NEW ROW LIES: the block that it was in, or a new one. Over the library's laws.
-/
import Derived.WalkKit
import Derived.Below
import Derived.Deep.QuietTactic
import Derived.Laws.AppendOwn
namespace Go.Proofs.YbulkblqcFmt
open Go.RowKit

/-- Keep a fact from the walk. -/
theorem hide {p : Prop} (h : p) : Hid p := h

/-- v' lies where v lay, or in a block that was not there in w. -/
def Moved (w : World) (v v' : Value) : Prop := ∀ k, v'.ownBlock = some k → v.ownBlock = some k ∨ w.heap.size ≤ k

theorem Moved.refl (w : World) (v : Value) : Moved w v v := fun _ h => .inl h

section
variable {P : Program} (w : World)

theorem append_moved (t ty e : TypeId) (i : TypeInfo) (z : Value) (size bytes : Nat) (ht : P.underlying t = some (.slice e)) (hi : P.info? e = some i) (hz : i.zero = some z)
    (hsize : i.size = size) (hby : i.bytes = bytes) (hzs : z.cells.size = size) (hsz : 0 < size)
    (v : Value) (n : Nat) (xs : List Value) (hown : w.ownsRow 0 e size v n xs)
    (a : Addr) (m c : Nat) (news : List Value) (hl : news.length = m * size) (hnews : ∀ j u, news[j]? = some u → w.cell? (a.add j) = some u) (h1 : ∀ u ∈ news, u.oneCell' = true)
    (h63 : n + m ≤ maxLen) (hbytes : (n + m) * bytes ≤ 140737488355328) :
    ∃ v' w', (Builtin.append_ #[t, t] ty #[v, .slice (some a) m c]).run P w = .ok v' w' ∧ w'.ownsRow 0 e size v' (n + m) (xs ++ news) ∧ w.grownBy w' v.ownBlock ∧ Moved w v v' := by
  obtain ⟨v', w', hr, ho, hg, _⟩ := run_append_own (P := P) w 0 t ty e i z size bytes ht hi hz hsize hby hzs hsz v n xs hown a m c news hl hnews h1 h63 hbytes (Nat.zero_le _)
  refine ⟨v', w', hr, ho, hg, ?_⟩
  rcases hown.2 with ⟨rfl, rfl⟩ | ⟨g, cap, cur, rfl, hbg, hgg, hnc, hcm, hcs, htake⟩
  · have hx : xs = [] := List.eq_nil_of_length_eq_zero (by simpa using hown.1)
    subst hx
    obtain ⟨v2, w2, hr2, ho2, _, _⟩ := run_append_own (P := P) w w.heap.size t ty e i z size bytes ht hi hz hsize hby hzs hsz _ 0 [] (World.ownsRow_nil w _ e size) a m c news hl hnews h1 h63 hbytes (Nat.le_refl _)
    rw [hr2] at hr
    injection hr with e1 e2
    subst e1
    exact fun k hk => .inr (ho2.lt k hk).1
  · subst hsize
    subst hby
    by_cases hroom : n + m ≤ cap
    · have hfit : n * i.size + news.length ≤ cur.size := by rw [hl, hcs, ← Nat.add_mul]; exact Nat.mul_le_mul_right _ hroom
      have hr2 := run_append_room (P := P) w t ty e i ht hi g n cap cur hgg a m c news hl hnews h1 hroom hfit
      rw [hr2] at hr
      injection hr with e1 e2
      subst e1
      exact fun k hk => .inl hk
    · have holds : ∀ j u, xs[j]? = some u → w.cell? ((⟨g, 0, none⟩ : Addr).add j) = some u := hown.cells (g := g) rfl
      have hr2 := run_append_grow (P := P) w t ty e i z ht hi hz ⟨g, 0, none⟩ n cap xs hown.1 holds a m c news hl hnews (by omega) (by simp only [maxLen] at h63; omega) (growslice_fits (by omega) hbytes)
      rw [hr2] at hr
      injection hr with e1 e2
      subst e1
      intro k hk
      simp [Value.ownBlock] at hk
      exact .inr (by omega)

theorem wpList_append_moved {ops : Array Oper} {rest : List Oper} {o : Oper} {a : Act} {Q : Exit → Act → World → Prop} (hgd : o.guard = none) (s x : Operand) (t : TypeId)
    (ho : o.op = .call { callee := .builtin .append, args := #[s, x], argTypes := #[t, t] })
    (e : TypeId) (i : TypeInfo) (z : Value) (size bytes : Nat) (ht : P.underlying t = some (.slice e)) (hi : P.info? e = some i) (hz : i.zero = some z)
    (hsize : i.size = size) (hby : i.bytes = bytes) (hzs : z.cells.size = size) (hsz : 0 < size)
    (v : Value) (n : Nat) (xs : List Value) (hs : a.eval s = v) (hown : w.ownsRow 0 e size v n xs)
    (ad : Addr) (m c : Nat) (news : List Value) (hx : a.eval x = .slice (some ad) m c) (hl : news.length = m * size) (hnews : ∀ j u, news[j]? = some u → w.cell? (ad.add j) = some u) (h1 : ∀ u ∈ news, u.oneCell' = true)
    (h63 : n + m ≤ maxLen) (hbytes : (n + m) * bytes ≤ 140737488355328)
    (h : ∀ v' w', w'.ownsRow 0 e size v' (n + m) (xs ++ news) → w.grownBy w' v.ownBlock → Moved w v v' → wpList P ops Q rest (a.put o.dst v') w') : wpList P ops Q (o :: rest) a w :=
  wpList_plain hgd fun K hK => by
    obtain ⟨v', w', hr, h2, h3, h4⟩ := append_moved (P := P) w t o.type e i z size bytes ht hi hz hsize hby hzs hsz v n xs hown ad m c news hl hnews h1 h63 hbytes
    unfold Oper.wp execOp
    simp only [ho, resolve, invoke, builtin, Sem.run_bind, Sem.run_pure, Result.andThen_ok, List.map_toArray, List.map_cons, List.map_nil, hs, hx, hr]
    exact hK _ _ (h v' w' h2 h3 h4)
end

/-! ### 'grownBy', put together -/

theorem grown_refl (w : World) (r : Option Nat) : w.grownBy w r := ⟨rfl, rfl, rfl, Nat.le_refl _, fun _ _ _ => rfl⟩

theorem grown_of_below {w w' : World} (h : Below w.heap.size w w') (r : Option Nat) : w.grownBy w' r := ⟨h.os, h.tape, h.output, h.size, fun k hk _ => h.block k hk⟩

theorem grown_trans {w w1 w2 : World} {r r1 : Option Nat} (h : w.grownBy w1 r) (h1 : w1.grownBy w2 r1) (hr : ∀ k, r1 = some k → r = some k ∨ w.heap.size ≤ k) : w.grownBy w2 r :=
  ⟨h1.os.trans h.os, h1.tape.trans h.tape, h1.output.trans h.output, Nat.le_trans h.size h1.size, fun k hk hne => by
    rw [h1.block k (Nat.lt_of_lt_of_le hk h.size) (fun e => by
      rcases hr k e.symm with h' | h'
      · exact hne h'.symm
      · omega)]
    exact h.block k hk hne⟩

theorem grown_drew {w w' : World} {r : Option Nat} (h : w.grownBy w' r) : w.grownBy w'.drew r := ⟨h.os, h.tape, h.output, h.size, h.block⟩

theorem grown_drewN {w w' : World} {r : Option Nat} (h : w.grownBy w' r) (n : Nat) : w.grownBy (w'.drewN n) r := ⟨h.os, h.tape, h.output, h.size, h.block⟩

theorem grown_below {w w' : World} {r : Option Nat} (h : w.grownBy w' r) {B : Nat} (hB : B ≤ w.heap.size) (hr : ∀ k, r = some k → B ≤ k) : Below B w w' :=
  (Below.refl B w).grown h hB hr

theorem moved_trans {w w1 : World} {v v1 v2 : Value} (h : Moved w v v1) (h1 : Moved w1 v1 v2) (hs : w.heap.size ≤ w1.heap.size) : Moved w v v2 := fun k hk => by
  rcases h1 k hk with h' | h'
  · exact h k h'
  · exact .inr (Nat.le_trans hs h')

end Go.Proofs.YbulkblqcFmt
