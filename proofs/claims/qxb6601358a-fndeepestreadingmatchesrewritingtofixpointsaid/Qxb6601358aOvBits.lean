/-
  Bits of a byte, as the walk spells them, in plain arithmetic.
-/
import Derived.Laws.BitsAllLaws
import Derived.Laws.Shifts
namespace Go.Proofs.Qxb6601358a.Ov
open Go

set_option maxRecDepth 100000 in
theorem nat_and192 : ∀ a, a < 256 → a &&& 192 = a / 64 * 64 := by decide
theorem and192 (x : Int) (h0 : 0 ≤ x) (h1 : x ≤ 255) : bits .and .u8 x 192 = x / 64 * 64 := by
  rw [u8_and x 192 h0 (by omega) (by omega) (by omega), show (192 : Int).toNat = 192 from rfl, nat_and192 _ (by omega)]; omega
theorem and192_yes (x : Int) (h0 : 128 ≤ x) (h1 : x < 192) : bits .and .u8 x 192 = 128 := by rw [and192 x (by omega) (by omega)]; omega
theorem and192_no (x : Int) (h0 : 0 ≤ x) (h1 : x ≤ 255) (h : ¬ (128 ≤ x ∧ x < 192)) : (bits .and .u8 x 192 == 128) = false := by rw [and192 x h0 h1]; simp; omega
theorem and63 (x : Int) (h0 : 0 ≤ x) (h1 : x ≤ 255) : bits .and .u8 x 63 = x % 64 := by
  rw [u8_and x 63 h0 (by omega) (by omega) (by omega), show (63 : Int).toNat = 63 from rfl, nat_mask6]; omega
theorem and3 (x : Int) (h0 : 0 ≤ x) (h1 : x ≤ 255) : bits .and .u8 x 3 = x % 4 := by
  rw [u8_and x 3 h0 (by omega) (by omega) (by omega), show (3 : Int).toNat = 3 from rfl, nat_mask2]; omega
theorem and1 (x : Int) (h0 : 0 ≤ x) (h1 : x ≤ 255) : bits .and .u8 x 1 = x % 2 := by
  rw [u8_and x 1 h0 (by omega) (by omega) (by omega), show (1 : Int).toNat = 1 from rfl, nat_mask1]; omega
theorem or128 (x : Int) (h0 : 0 ≤ x) (h1 : x < 64) : bits .or .u8 128 x = 128 + x := by
  rw [u8_or 128 x (by omega) (by omega) h0 (by omega), show (128 : Int).toNat = 128 from rfl, nat_join 6 128 x.toNat (by decide) (by omega)]; omega

theorem or192 (x : Int) (h0 : 0 ≤ x) (h1 : x < 64) : bits .or .u8 192 x = 192 + x := by
  rw [u8_or 192 x (by omega) (by omega) h0 (by omega), show (192 : Int).toNat = 192 from rfl, nat_join 6 192 x.toNat (by decide) (by omega)]; omega
set_option maxRecDepth 100000 in
theorem nat_and254 : ∀ a, a < 256 → a &&& 254 = a / 2 * 2 := by decide
theorem and254 (x : Int) (h0 : 0 ≤ x) (h1 : x ≤ 255) : bits .and .u8 x 254 = x / 2 * 2 := by
  rw [u8_and x 254 h0 (by omega) (by omega) (by omega), show (254 : Int).toNat = 254 from rfl, nat_and254 _ (by omega)]; omega
theorem or_u8 (a b : Int) (h0 : 0 ≤ a) (h1 : a < 4) (h2 : 0 ≤ b) (h3 : b < 64) : bits .or .u8 (a * 64) b = a * 64 + b := by
  rw [u8_or (a * 64) b (by omega) (by omega) h2 (by omega), nat_join 6 (a * 64).toNat b.toNat (by omega) (by omega)]; omega
theorem or_u8' (a b : Int) (h0 : 0 ≤ a) (h1 : a < 16) (h2 : 0 ≤ b) (h3 : b < 16) : bits .or .u8 (a * 16) b = a * 16 + b := by
  rw [u8_or (a * 16) b (by omega) (by omega) h2 (by omega), nat_join 4 (a * 16).toNat b.toNat (by omega) (by omega)]; omega
theorem or_i64 (V x : Int) (h0 : 0 ≤ V) (h1 : V < 68719476736) (h2 : 0 ≤ x) (h3 : x < 64) : bits .or .i64 (V * 64) x = V * 64 + x := by
  obtain ⟨a, rfl⟩ : ∃ a : Nat, V = a := ⟨V.toNat, by omega⟩
  obtain ⟨b, rfl⟩ : ∃ b : Nat, x = b := ⟨x.toNat, by omega⟩
  have e1 : (BitVec.ofInt 64 ((a : Int) * 64)).toNat = a * 64 := by
    rw [show ((a : Int) * 64) = ((a * 64 : Nat) : Int) from by omega]; exact ofInt_u64 _ (by omega)
  have e2 : (BitVec.ofInt 64 (b : Int)).toNat = b := ofInt_u64 _ (by omega)
  have e3 : a * 64 ||| b = a * 64 + b := nat_join 6 (a * 64) b (by omega) (by omega)
  show IntKind.i64.wrap ((BitVec.ofInt 64 ((a : Int) * 64) ||| BitVec.ofInt 64 (b : Int) : BitVec 64).toNat : Int) = _
  rw [BitVec.toNat_or, e1, e2, e3]
  simp only [IntKind.wrap, IntKind.bits, IntKind.signed]
  simp
  omega

#print axioms or_i64
end Go.Proofs.Qxb6601358a.Ov
