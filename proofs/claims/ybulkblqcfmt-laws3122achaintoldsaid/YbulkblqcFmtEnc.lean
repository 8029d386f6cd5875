/-
  A CHAIN OF ITEMS, ENCODED, AND WHAT THE PLAIN PARSER MAKES OF IT: no Go in sight. 'code i': item i's type; 'bd i': its body; n: how many.
-/
import Derived.Test.YbulkblqcFmtParse
namespace Go.Proofs.YbulkblqcFmt

/-- One payload: its header, then its body. -/
def enc1 (nx : Int) (l : List Int) : List Int := [nx, 0, ((4 + l.length : Nat) : Int) / 256, ((4 + l.length : Nat) : Int) % 256] ++ l

/-- The type that stands in item i's header: the next item's, or none. -/
def nxt (n : Nat) (code : Nat → Int) (i : Nat) : Int := if i + 1 < n then code (i + 1) else 0

/-- The first k items, encoded. -/
def pre (n : Nat) (code : Nat → Int) (bd : Nat → List Int) : Nat → List Int
  | 0 => []
  | k + 1 => pre n code bd k ++ enc1 (nxt n code k) (bd k)

/-- Item i, as the parser tells it. -/
def itm (n : Nat) (code : Nat → Int) (bd : Nat → List Int) (i : Nat) : Int × Nat × Nat :=
  (code i, (pre n code bd i).length + 4, (pre n code bd i).length + (4 + (bd i).length))

section
variable {n : Nat} {code : Nat → Int} {bd : Nat → List Int}

theorem enc1_length (nx : Int) (l : List Int) : (enc1 nx l).length = 4 + l.length := by simp [enc1]; omega

theorem pre_length_succ (k : Nat) : (pre n code bd (k + 1)).length = (pre n code bd k).length + (4 + (bd k).length) := by
  simp [pre, enc1_length]

theorem pre_length_le (hb : ∀ i, i < n → (bd i).length ≤ 4096) : ∀ k, k ≤ n → (pre n code bd k).length ≤ k * 4100
  | 0, _ => by simp [pre]
  | k + 1, h => by
    have h1 := pre_length_le hb k (by omega)
    have h2 := hb k (by omega)
    rw [pre_length_succ]
    omega

/-- What was encoded stays. -/
theorem pre_split : ∀ (m k : Nat), ∃ s, pre n code bd (k + m) = pre n code bd k ++ s
  | 0, k => ⟨[], by simp⟩
  | m + 1, k => by
    obtain ⟨s, hs⟩ := pre_split m k
    exact ⟨s ++ enc1 (nxt n code (k + m)) (bd (k + m)), by
      show pre n code bd (k + m) ++ _ = _
      rw [hs, List.append_assoc]
      rfl⟩

/-- Octet j of item k. -/
theorem octet_at (tl : List Int) (k : Nat) (hk : k < n) (j : Nat) (hj : j < 4 + (bd k).length) :
    (pre n code bd n ++ tl).getD ((pre n code bd k).length + j) 0 = (enc1 (nxt n code k) (bd k)).getD j 0 := by
  obtain ⟨s, hs⟩ := pre_split (n := n) (code := code) (bd := bd) (n - (k + 1)) (k + 1)
  have e : k + 1 + (n - (k + 1)) = n := by omega
  rw [e] at hs
  rw [hs]
  have hl : (enc1 (nxt n code k) (bd k)).length = 4 + (bd k).length := enc1_length _ _
  show ((pre n code bd k ++ enc1 (nxt n code k) (bd k)) ++ s ++ tl).getD _ 0 = _
  rw [List.append_assoc, List.append_assoc, List.getD_eq_getElem?_getD, List.getElem?_append_right (by omega), Nat.add_sub_cancel_left, List.getElem?_append_left (by omega), ← List.getD_eq_getElem?_getD]

theorem enc1_0 (nx : Int) (l : List Int) : (enc1 nx l).getD 0 0 = nx := rfl
theorem enc1_1 (nx : Int) (l : List Int) : (enc1 nx l).getD 1 0 = 0 := rfl
theorem enc1_2 (nx : Int) (l : List Int) : (enc1 nx l).getD 2 0 = ((4 + l.length : Nat) : Int) / 256 := rfl
theorem enc1_3 (nx : Int) (l : List Int) : (enc1 nx l).getD 3 0 = ((4 + l.length : Nat) : Int) % 256 := rfl
theorem enc1_body (nx : Int) (l : List Int) (j : Nat) : (enc1 nx l).getD (4 + j) 0 = l.getD j 0 := by
  simp [enc1, Nat.add_comm 4 j]

/-- The header of item k is in order. -/
theorem hdr_item (tl : List Int) (hc : ∀ i, i < n → assigned (code i) = true) (k : Nat) (hk : k < n) :
    hdr (fun j => (pre n code bd n ++ tl).getD j 0) (pre n code bd n ++ tl).length (pre n code bd k).length = .inr (nxt n code k, 4 + (bd k).length) := by
  have o0 := octet_at (code := code) (bd := bd) tl k hk 0 (by omega)
  have o1 := octet_at (code := code) (bd := bd) tl k hk 1 (by omega)
  have o2 := octet_at (code := code) (bd := bd) tl k hk 2 (by omega)
  have o3 := octet_at (code := code) (bd := bd) tl k hk 3 (by omega)
  rw [enc1_0, Nat.add_zero] at o0
  rw [enc1_1] at o1
  rw [enc1_2] at o2
  rw [enc1_3] at o3
  have hlen : (pre n code bd k).length + (4 + (bd k).length) ≤ (pre n code bd n ++ tl).length := by
    obtain ⟨s, hs⟩ := pre_split (n := n) (code := code) (bd := bd) (n - (k + 1)) (k + 1)
    have e : k + 1 + (n - (k + 1)) = n := by omega
    rw [e] at hs
    rw [hs, List.length_append, List.length_append, pre_length_succ]
    omega
  have ht : told (fun j => (pre n code bd n ++ tl).getD j 0) (pre n code bd k).length = 4 + (bd k).length := by
    unfold told
    simp only [o2, o3]
    omega
  have hv : (assigned (nxt n code k) || nxt n code k == 0) = true := by
    unfold nxt
    split
    · rename_i h
      rw [hc _ h]
      rfl
    · simp
  have := hdr_ok (f := fun j => (pre n code bd n ++ tl).getD j 0) (L := (pre n code bd n ++ tl).length) (p := (pre n code bd k).length) (by omega) (by simp only [o0]; exact hv) o1 (by rw [ht]; omega)
  rw [this, ht]
  simp only [o0]

theorem code_ne {t : Int} (h : assigned t = true) : t ≠ 0 := by
  intro e
  subst e
  simp [assigned] at h

/-- What the parser makes of the chain from item k on. -/
theorem rest_items (tl : List Int) (hc : ∀ i, i < n → assigned (code i) = true) : ∀ (m k fuel : Nat) (acc : List (Int × Nat × Nat)), k + m = n →
    rest (fun j => (pre n code bd n ++ tl).getD j 0) (pre n code bd n ++ tl).length fuel (if k < n then code k else 0) (pre n code bd k).length acc =
      if m ≤ fuel then .inr (acc ++ (List.range m).map (fun i => itm n code bd (k + i)), (pre n code bd n).length) else .inl malformed
  | 0, k, fuel, acc, h => by
    have e : k = n := by omega
    subst e
    rw [if_neg (by omega), rest_zero rfl, if_pos (by omega)]
    simp
  | m + 1, k, fuel, acc, h => by
    have hk : k < n := by omega
    rw [if_pos hk]
    cases fuel with
    | zero => rw [rest_full (code_ne (hc k hk)), if_neg (by omega)]
    | succ fuel =>
      rw [rest_next (code_ne (hc k hk)) (hdr_item tl hc k hk) (by omega), Nat.add_sub_cancel]
      have hi := rest_items tl hc m (k + 1) fuel (acc ++ [itm n code bd k]) (by omega)
      rw [pre_length_succ] at hi
      have e1 : nxt n code k = if k + 1 < n then code (k + 1) else 0 := rfl
      rw [e1]
      refine Eq.trans hi ?_
      by_cases hm : m ≤ fuel
      · rw [if_pos hm, if_pos (by omega), List.range_succ_eq_map]
        simp [Nat.add_assoc, Nat.add_comm 1]
      · rw [if_neg hm, if_neg (by omega)]

/-- THE PLAIN LAW. -/
theorem rest_chain (tl : List Int) (hc : ∀ i, i < n → assigned (code i) = true) :
    rest (fun j => (pre n code bd n ++ tl).getD j 0) (pre n code bd n ++ tl).length 64 (if 0 < n then code 0 else 0) 0 [] =
      if n ≤ 64 then .inr ((List.range n).map (itm n code bd), (pre n code bd n).length) else .inl malformed := by
  have h := rest_items (code := code) (bd := bd) tl hc n 0 64 [] (by omega)
  simpa [pre] using h
end

end Go.Proofs.YbulkblqcFmt
