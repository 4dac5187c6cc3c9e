import Derived.RowKit
import Derived.IntWalk
import Derived.Laws.Bits64b
import Derived.WalkKit
namespace Go.Proofs.Yoefyw.Plain
open Go.RowKit

/-- The low 32 bits of a uint64. -/
theorem low32 (d : Int) (h0 : 0 ≤ d) (h1 : d < 18446744073709551616) : bits .and .u64 d 4294967295 = d % 4294967296 := by
  obtain ⟨a, rfl⟩ := Int.eq_ofNat_of_zero_le h0
  have ha : a < 18446744073709551616 := by omega
  have e := bits_and_u64_nat a 4294967295 ha (by omega)
  have m : a &&& 4294967295 = a % 4294967296 := Nat.and_two_pow_sub_one_eq_mod a 32
  rw [m] at e
  have hc : ((4294967295 : Nat) : Int) = 4294967295 := rfl
  rw [hc] at e
  rw [e]
  omega

/-- 'uint64(n) - uint64(int64(rune(n)))' has no low bit. -/
theorem congruent (n : Int) : (bits .and .u64 (IntKind.u64.wrap (IntKind.u64.wrap n - IntKind.u64.wrap (wrap64 (wrap32 n)))) 4294967295 != 0) = false := by
  have hr : wrap64 (wrap32 n) = wrap32 n := by
    have : -2147483648 ≤ wrap32 n ∧ wrap32 n < 2147483648 := by unfold wrap32; omega
    unfold wrap64; omega
  have hd : ∃ q : Int, wrap32 n = n - 4294967296 * q := ⟨(n + 2147483648) / 4294967296, by unfold wrap32; omega⟩
  rw [hr]
  obtain ⟨q, hq⟩ := hd
  rw [hq]
  simp only [IntKind.wrap_u64]
  rw [low32 _ (by omega) (by omega)]
  have e : (n % 18446744073709551616 - (n - 4294967296 * q) % 18446744073709551616) % 18446744073709551616 % 4294967296 = 0 := by omega
  rw [e]
  rfl

end Go.Proofs.Yoefyw.Plain
