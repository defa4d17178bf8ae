/-
  BYTES OUT OF BITS, AND BACK: plain arithmetic on the walk's own spelling.
-/
import Derived.Laws.BitsAllLaws
import Derived.Laws.Entries
namespace Go.Proofs.Qxb6604085aMods.B
open Go

theorem or_add (p : Nat) (q r : Int) (hq : 0 ≤ q) (hr : 0 ≤ r) (hr2 : r < 2 ^ p) (h : 2 ^ p * q + r < 256) : bits .or .u8 (2 ^ p * q) r = 2 ^ p * q + r := by
  have hp : (0 : Int) ≤ 2 ^ p := Int.pow_nonneg (by decide)
  have hm : 0 ≤ 2 ^ p * q := Int.mul_nonneg hp hq
  rw [u8_or _ _ hm (by omega) hr (by omega)]
  obtain ⟨a, rfl⟩ := Int.eq_ofNat_of_zero_le hq
  obtain ⟨b, rfl⟩ := Int.eq_ofNat_of_zero_le hr
  have hb : b < 2 ^ p := by
    have : ((2 : Int) ^ p) = ((2 ^ p : Nat) : Int) := by simp
    rw [this] at hr2
    exact_mod_cast hr2
  have e : ((2 : Int) ^ p * (a : Int)) = ((2 ^ p * a : Nat) : Int) := by simp
  rw [e]
  simp only [Int.toNat_natCast]
  rw [← Nat.two_pow_add_eq_or_of_lt hb]
  simp

theorem wrap_id (n : Int) (h0 : 0 ≤ n) (h1 : n < 256) : IntKind.u8.wrap n = n := by
  rw [IntKind.wrap_u8']; omega

/-- Eight bits, packed as the text packs them. -/
theorem pack8 (z0 z1 z2 z3 z4 z5 z6 z7 : Int) (p0 : 0 ≤ z0) (r0 : z0 ≤ 1) (p1 : 0 ≤ z1) (r1 : z1 ≤ 1) (p2 : 0 ≤ z2) (r2 : z2 ≤ 1) (p3 : 0 ≤ z3) (r3 : z3 ≤ 1) (p4 : 0 ≤ z4) (r4 : z4 ≤ 1) (p5 : 0 ≤ z5) (r5 : z5 ≤ 1) (p6 : 0 ≤ z6) (r6 : z6 ≤ 1) (p7 : 0 ≤ z7) (r7 : z7 ≤ 1) :
    bits .or .u8 (bits .or .u8 (bits .or .u8 (bits .or .u8 (bits .or .u8 (bits .or .u8 (bits .or .u8 (IntKind.u8.wrap (z0 * 128)) (IntKind.u8.wrap (z1 * 64))) (IntKind.u8.wrap (z2 * 32))) (IntKind.u8.wrap (z3 * 16))) (IntKind.u8.wrap (z4 * 8))) (IntKind.u8.wrap (z5 * 4))) (IntKind.u8.wrap (z6 * 2))) z7
      = 128 * z0 + 64 * z1 + 32 * z2 + 16 * z3 + 8 * z4 + 4 * z5 + 2 * z6 + z7 := by
  rw [wrap_id (z0 * 128) (by omega) (by omega), wrap_id (z1 * 64) (by omega) (by omega), wrap_id (z2 * 32) (by omega) (by omega), wrap_id (z3 * 16) (by omega) (by omega), wrap_id (z4 * 8) (by omega) (by omega), wrap_id (z5 * 4) (by omega) (by omega), wrap_id (z6 * 2) (by omega) (by omega)]
  have s1 := or_add 7 z0 (z1 * 64) (by omega) (by omega) (by omega) (by omega)
  rw [show z0 * 128 = 2 ^ 7 * z0 from by omega, s1]
  have s2 := or_add 6 (2 * z0 + z1) (z2 * 32) (by omega) (by omega) (by omega) (by omega)
  rw [show (2 : Int) ^ 7 * z0 + z1 * 64 = 2 ^ 6 * (2 * z0 + z1) from by omega, s2]
  have s3 := or_add 5 (4 * z0 + 2 * z1 + z2) (z3 * 16) (by omega) (by omega) (by omega) (by omega)
  rw [show (2 : Int) ^ 6 * (2 * z0 + z1) + z2 * 32 = 2 ^ 5 * (4 * z0 + 2 * z1 + z2) from by omega, s3]
  have s4 := or_add 4 (8 * z0 + 4 * z1 + 2 * z2 + z3) (z4 * 8) (by omega) (by omega) (by omega) (by omega)
  rw [show (2 : Int) ^ 5 * (4 * z0 + 2 * z1 + z2) + z3 * 16 = 2 ^ 4 * (8 * z0 + 4 * z1 + 2 * z2 + z3) from by omega, s4]
  have s5 := or_add 3 (16 * z0 + 8 * z1 + 4 * z2 + 2 * z3 + z4) (z5 * 4) (by omega) (by omega) (by omega) (by omega)
  rw [show (2 : Int) ^ 4 * (8 * z0 + 4 * z1 + 2 * z2 + z3) + z4 * 8 = 2 ^ 3 * (16 * z0 + 8 * z1 + 4 * z2 + 2 * z3 + z4) from by omega, s5]
  have s6 := or_add 2 (32 * z0 + 16 * z1 + 8 * z2 + 4 * z3 + 2 * z4 + z5) (z6 * 2) (by omega) (by omega) (by omega) (by omega)
  rw [show (2 : Int) ^ 3 * (16 * z0 + 8 * z1 + 4 * z2 + 2 * z3 + z4) + z5 * 4 = 2 ^ 2 * (32 * z0 + 16 * z1 + 8 * z2 + 4 * z3 + 2 * z4 + z5) from by omega, s6]
  have s7 := or_add 1 (64 * z0 + 32 * z1 + 16 * z2 + 8 * z3 + 4 * z4 + 2 * z5 + z6) z7 (by omega) (by omega) (by omega) (by omega)
  rw [show (2 : Int) ^ 2 * (32 * z0 + 16 * z1 + 8 * z2 + 4 * z3 + 2 * z4 + z5) + z6 * 2 = 2 ^ 1 * (64 * z0 + 32 * z1 + 16 * z2 + 8 * z3 + 4 * z4 + 2 * z5 + z6) from by omega, s7]
  omega

/-- One bit more. -/
theorem or_one (p : Nat) (q z : Int) (hp : p ≤ 7) (hq : 0 ≤ q) (hz0 : 0 ≤ z) (hz1 : z ≤ 1) (h : 2 ^ (p + 1) * q + 2 ^ p ≤ 256) : bits .or .u8 (2 ^ (p + 1) * q) (z * 2 ^ p) = 2 ^ p * (2 * q + z) := by
  match p, hp with
  | 0, _ => rw [or_add 1 q (z * 2 ^ 0) hq (by omega) (by omega) (by omega)]; omega
  | 1, _ => rw [or_add 2 q (z * 2 ^ 1) hq (by omega) (by omega) (by omega)]; omega
  | 2, _ => rw [or_add 3 q (z * 2 ^ 2) hq (by omega) (by omega) (by omega)]; omega
  | 3, _ => rw [or_add 4 q (z * 2 ^ 3) hq (by omega) (by omega) (by omega)]; omega
  | 4, _ => rw [or_add 5 q (z * 2 ^ 4) hq (by omega) (by omega) (by omega)]; omega
  | 5, _ => rw [or_add 6 q (z * 2 ^ 5) hq (by omega) (by omega) (by omega)]; omega
  | 6, _ => rw [or_add 7 q (z * 2 ^ 6) hq (by omega) (by omega) (by omega)]; omega
  | 7, _ => rw [or_add 8 q (z * 2 ^ 7) hq (by omega) (by omega) (by omega)]; omega

theorem and_one (n : Int) (h0 : 0 ≤ n) (h1 : n < 256) : bits .and .u8 n 1 = n % 2 := by
  rw [u8_and _ _ h0 h1 (by omega) (by omega)]
  obtain ⟨a, rfl⟩ := Int.eq_ofNat_of_zero_le h0
  simp only [Int.toNat_natCast, show (1 : Int).toNat = 1 from rfl, Nat.and_one_is_mod]
  simp

end Go.Proofs.Qxb6604085aMods.B
