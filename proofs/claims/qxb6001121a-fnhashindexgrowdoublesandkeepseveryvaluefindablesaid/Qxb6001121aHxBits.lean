/-
  MASKS: 'x & (n-1)' where n is a power of two; places on a ring.
-/
import Derived.WalkKit
import Derived.Laws.BitsAllLaws
namespace Go.Proofs.Qxb6001121a.HxBits

def Pow2 (N : Nat) : Prop := ∃ e, N = 2 ^ e

theorem mask_u64 {x : Int} {N : Nat} (hp : Pow2 N) (hN : N ≤ 1048576) (h0 : 0 ≤ x) (h1 : x < 18446744073709551616) : bits .and .u64 x ((N : Int) - 1) = ((x.toNat % N : Nat) : Int) := by
  obtain ⟨e, rfl⟩ := hp
  have hpos : 0 < 2 ^ e := Nat.two_pow_pos e
  rw [u64_and x _ h0 h1 (by omega) (by omega)]
  have : (((2 ^ e : Nat) : Int) - 1).toNat = 2 ^ e - 1 := by omega
  rw [this, Nat.and_two_pow_sub_one_eq_mod]

theorem i64_and_nat (a b : Nat) (ha : a < 9223372036854775808) (hb : b < 9223372036854775808) : bits .and .i64 (a : Int) (b : Int) = ((a &&& b : Nat) : Int) := by
  have hx : a &&& b < 2 ^ 63 := Nat.and_lt_two_pow _ (by omega)
  show IntKind.i64.wrap ((BitVec.ofInt 64 (a : Int) &&& BitVec.ofInt 64 (b : Int)).toNat : Int) = _
  rw [BitVec.toNat_and, ofInt_u64 a (by omega), ofInt_u64 b (by omega), IntKind.wrap_i64]
  omega
theorem mask_i64 {q N : Nat} (hp : Pow2 N) (hN : N ≤ 1048576) (hq : q ≤ 1048576) : bits .and .i64 ((q : Int) + 1) ((N : Int) - 1) = (((q + 1) % N : Nat) : Int) := by
  obtain ⟨e, rfl⟩ := hp
  have hpos : 0 < 2 ^ e := Nat.two_pow_pos e
  have e1 : ((q : Int) + 1) = ((q + 1 : Nat) : Int) := by omega
  have e2 : (((2 ^ e : Nat) : Int) - 1) = ((2 ^ e - 1 : Nat) : Int) := by omega
  rw [e1, e2, i64_and_nat _ _ (by omega) (by omega), Nat.and_two_pow_sub_one_eq_mod]

theorem ring_back {N home t : Nat} (hh : home < N) (ht : t < N) : ((home + t) % N + N - home) % N = t := by
  by_cases h : home + t < N
  · rw [Nat.mod_eq_of_lt h, show home + t + N - home = t + N from by omega, Nat.add_mod_right, Nat.mod_eq_of_lt ht]
  · have e : (home + t) % N = home + t - N := by rw [Nat.mod_eq_sub_mod (by omega), Nat.mod_eq_of_lt (by omega)]
    rw [e, show home + t - N + N - home = t from by omega, Nat.mod_eq_of_lt ht]
theorem ring_to {N home p : Nat} (hh : home < N) (hp : p < N) : (home + (p + N - home) % N) % N = p := by
  by_cases h : home ≤ p
  · rw [show p + N - home = (p - home) + N from by omega, Nat.add_mod_right, Nat.mod_eq_of_lt (show p - home < N by omega), show home + (p - home) = p from by omega, Nat.mod_eq_of_lt hp]
  · rw [Nat.mod_eq_of_lt (show p + N - home < N by omega), show home + (p + N - home) = p + N from by omega, Nat.add_mod_right, Nat.mod_eq_of_lt hp]
theorem ring_next {N home t : Nat} : ((home + t) % N + 1) % N = (home + (t + 1)) % N := by
  rw [Nat.mod_add_mod, Nat.add_assoc]

end Go.Proofs.Qxb6001121a.HxBits
