/-
  THE PLAIN PARSER OF A CHAIN OF GENERIC HEADERS: no Go in sight. The octets are a function f and a length L.
-/
import Derived.Test.YbulkblqcFmtSmall
namespace Go.Proofs.YbulkblqcFmt

/-- The three events. -/
def malformed : ByteArray := ⟨#[80, 65, 89, 76, 79, 65, 68, 32, 77, 65, 76, 70, 79, 82, 77, 69, 68]⟩
def badNext : ByteArray := ⟨#[73, 78, 86, 65, 76, 73, 68, 32, 78, 69, 88, 84, 32, 80, 65, 89, 76, 79, 65, 68]⟩
def reserved : ByteArray := ⟨#[73, 78, 86, 65, 76, 73, 68, 32, 82, 69, 83, 69, 82, 86, 69, 68, 32, 70, 73, 69, 76, 68]⟩

/-- The length that a header tells. -/
def told (f : Nat → Int) (p : Nat) : Nat := (f (p + 2) * 256 + f (p + 3)).toNat

/-- One header: what is wrong with it, or the next payload's type and this one's length. -/
def hdr (f : Nat → Int) (L p : Nat) : Sum ByteArray (Int × Nat) :=
  if L - p < 4 then .inl malformed
  else if (assigned (f p) || f p == 0) = false then .inl badNext
  else if f (p + 1) ≠ 0 then .inl reserved
  else if told f p < 4 ∨ L - p < told f p then .inl malformed
  else .inr (f p, told f p)

/-- The chain from here on: at most 'fuel' payloads more; l: those so far (type, start, end of each body). -/
def rest (f : Nat → Int) (L : Nat) : Nat → Int → Nat → List (Int × Nat × Nat) → Sum ByteArray (List (Int × Nat × Nat) × Nat)
  | 0, t, p, l => if t = 0 then .inr (l, p) else .inl malformed
  | fuel + 1, t, p, l => if t = 0 then .inr (l, p) else
    match hdr f L p with
    | .inl e => .inl e
    | .inr (nx, n) => rest f L fuel nx (p + n) (l ++ [(t, p + 4, p + n)])

section
variable {f : Nat → Int} {L fuel p : Nat} {t : Int} {l : List (Int × Nat × Nat)}

theorem rest_zero (h : t = 0) : rest f L fuel t p l = .inr (l, p) := by
  cases fuel <;> simp [rest, h]

theorem rest_full (h : t ≠ 0) : rest f L 0 t p l = .inl malformed := by simp [rest, h]

theorem rest_err {e : ByteArray} (h : t ≠ 0) (he : hdr f L p = .inl e) (hf : 0 < fuel) : rest f L fuel t p l = .inl e := by
  obtain ⟨m, rfl⟩ : ∃ m, fuel = m + 1 := ⟨fuel - 1, by omega⟩
  simp [rest, h, he]

theorem rest_next {nx : Int} {n : Nat} (h : t ≠ 0) (he : hdr f L p = .inr (nx, n)) (hf : 0 < fuel) : rest f L fuel t p l = rest f L (fuel - 1) nx (p + n) (l ++ [(t, p + 4, p + n)]) := by
  obtain ⟨m, rfl⟩ : ∃ m, fuel = m + 1 := ⟨fuel - 1, by omega⟩
  simp [rest, h, he]

theorem hdr_short (h : L - p < 4) : hdr f L p = .inl malformed := by simp [hdr, h]
theorem hdr_next (h : ¬ L - p < 4) (h2 : (assigned (f p) || f p == 0) = false) : hdr f L p = .inl badNext := by
  unfold hdr; rw [if_neg h, if_pos h2]
theorem hdr_reserved (h : ¬ L - p < 4) (h2 : (assigned (f p) || f p == 0) = true) (h3 : f (p + 1) ≠ 0) : hdr f L p = .inl reserved := by
  unfold hdr; rw [if_neg h, if_neg (by simp [h2]), if_pos h3]
theorem hdr_len (h : ¬ L - p < 4) (h2 : (assigned (f p) || f p == 0) = true) (h3 : f (p + 1) = 0) (h4 : told f p < 4 ∨ L - p < told f p) : hdr f L p = .inl malformed := by
  unfold hdr; rw [if_neg h, if_neg (by simp [h2]), if_neg (by simp [h3]), if_pos h4]
theorem hdr_ok (h : ¬ L - p < 4) (h2 : (assigned (f p) || f p == 0) = true) (h3 : f (p + 1) = 0) (h4 : ¬ (told f p < 4 ∨ L - p < told f p)) : hdr f L p = .inr (f p, told f p) := by
  unfold hdr; rw [if_neg h, if_neg (by simp [h2]), if_neg (by simp [h3]), if_neg h4]
end

end Go.Proofs.YbulkblqcFmt
