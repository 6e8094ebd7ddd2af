import Derived.Test.YbulkeewkRows
import Derived.WalkKit
import Derived.ProofKit
import Derived.WalkSpells
import Derived.WalkLawsBesides
import Derived.Laws.BitsAllLaws
namespace Go.Proofs.Ybulkeewk
open Go.RowKit

theorem ret_int {k : IntKind} {a b : Int} (h : a = b) : Ending.returned (.int k a) = .returned (.int k b) := by rw [h]

/-- 's >> 32 << 32 | low' with low below 2^32. -/
theorem or_jnw (x y : Int) (hx0 : 0 ≤ x) (hx1 : x < 4294967296) (hy0 : 0 ≤ y) (hy1 : y < 4294967296) :
    bits .or .u64 (x * 4294967296) y = x * 4294967296 + y := by
  rw [u64_or _ _ (by omega) (by omega) (by omega) (by omega)]
  have h := nat_join 32 (x * 4294967296).toNat y.toNat (by omega) (by omega)
  rw [h]
  omega

/-- how many sleep -/
def slp (s : Int) : Int := (s / 4294967296 - s % 4294967296) % 4294967296
/-- the counts with n more woken -/
def addw (s n : Int) : Int := s / 4294967296 * 4294967296 + (s + n) % 4294967296
/-- the counts laid from their halves -/
def jnw (j k : Int) : Int := j * 4294967296 + k

theorem jnw_bd (j k : Int) (a : 0 ≤ j) (b : j < 4294967296) (c : 0 ≤ k) (d : k < 4294967296) : 0 ≤ jnw j k ∧ jnw j k < 18446744073709551616 := by
  unfold jnw; omega
theorem slp_bd (s : Int) : 0 ≤ slp s ∧ slp s < 4294967296 := by unfold slp; omega
theorem slp_jnw (j k : Int) (c : 0 ≤ k) (d : k < 4294967296) : slp (jnw j k) = (j - k) % 4294967296 := by
  unfold slp jnw; omega
theorem addw_jnw (j k : Int) (a : 0 ≤ j) (b : j < 4294967296) (c : 0 ≤ k) (d : k < 4294967296) : addw (jnw j k) (slp (jnw j k)) = jnw j j := by
  rw [slp_jnw j k c d]; unfold addw jnw; omega
theorem or_jnw' (x y : Int) (hx0 : 0 ≤ x) (hx1 : x < 4294967296) (hy0 : 0 ≤ y) (hy1 : y < 4294967296) :
    bits .or .u64 (x * 4294967296) y = jnw x y := or_jnw x y hx0 hx1 hy0 hy1
end Go.Proofs.Ybulkeewk
