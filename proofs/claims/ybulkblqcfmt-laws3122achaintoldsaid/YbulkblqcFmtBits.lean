/-
  TWO OCTETS PUT TOGETHER: 'int(a)<<8 | int(b)', AND TAKEN APART: no Go in sight.
-/
import Derived.WalkKit
import Derived.Laws.BitsAllLaws
namespace Go.Proofs.YbulkblqcFmt

theorem or_octets (x y : Int) (hx : 0 ≤ x) (hx' : x ≤ 255) (hy : 0 ≤ y) (hy' : y ≤ 255) : bits .or .i64 (x * 256) y = x * 256 + y := by
  obtain ⟨X, rfl⟩ := Int.eq_ofNat_of_zero_le hx
  obtain ⟨Y, rfl⟩ := Int.eq_ofNat_of_zero_le hy
  have e : (X : Int) * 256 = ((X * 256 : Nat) : Int) := by omega
  rw [e]
  have hor : X * 256 ||| Y = X * 256 + Y := by
    have h := Nat.shiftLeft_add_eq_or_of_lt (b := Y) (i := 8) (by omega) X
    rw [Nat.shiftLeft_eq] at h
    exact h.symm
  show IntKind.i64.wrap ((BitVec.ofInt 64 ((X * 256 : Nat) : Int) ||| BitVec.ofInt 64 (Y : Int)).toNat : Int) = _
  rw [BitVec.toNat_or, ofInt_u64 (X * 256) (by omega), ofInt_u64 Y (by omega), IntKind.wrap_i64, hor]
  omega

end Go.Proofs.YbulkblqcFmt
