/- The plain laws: no program in sight. -/
import Derived.OpenShut
namespace Go.Proofs.Qxb6603958a
open Go

theorem wrap64_toInt (b : BitVec 64) : IntKind.i64.wrap (b.toNat : Int) = b.toInt := by
  rw [BitVec.toInt_eq_toNat_bmod]
  simp [IntKind.wrap, IntKind.bits, IntKind.signed, Int.bmod]
  omega

theorem or_i64 (x y : Int) : bits .or .i64 x y = (BitVec.ofInt 64 x ||| BitVec.ofInt 64 y).toInt := wrap64_toInt _
theorem xor_i64 (x y : Int) : bits .xor .i64 x y = (BitVec.ofInt 64 x ^^^ BitVec.ofInt 64 y).toInt := wrap64_toInt _

theorem toInt_ofInt (x : Int) (h : (Lit.int .i64 x).wf = true) : (BitVec.ofInt 64 x).toInt = x := by
  have hb := bounds_i64 h
  rw [BitVec.toInt_ofInt]
  rw [Int.bmod_eq_of_le] <;> omega

theorem or_eq_zero (a b : BitVec 64) : a ||| b = 0#64 ↔ a = 0#64 ∧ b = 0#64 := BitVec.or_eq_zero_iff

theorem orxor (x y z : Int) (hx : (Lit.int .i64 x).wf = true) (hy : (Lit.int .i64 y).wf = true) (hz : (Lit.int .i64 z).wf = true) :
    bits .or .i64 x (bits .xor .i64 y z) = 0 ↔ (x = 0 ∧ y = z) := by
  rw [or_i64, xor_i64, BitVec.ofInt_toInt]
  have e0 : (0 : Int) = (0#64).toInt := by decide
  constructor
  · intro h
    rw [e0] at h
    have h1 := BitVec.eq_of_toInt_eq h
    obtain ⟨h2, h3⟩ := BitVec.or_eq_zero_iff.mp h1
    constructor
    · rw [← toInt_ofInt x hx, h2]; decide
    · rw [BitVec.xor_eq_zero_iff] at h3
      rw [← toInt_ofInt y hy, ← toInt_ofInt z hz, h3]
  · rintro ⟨rfl, rfl⟩
    simp
end Go.Proofs.Qxb6603958a
