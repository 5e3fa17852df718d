/-
  Plain facts on shifts and the highest bit (no Go in sight).
-/
import Derived.Test.Qxb6612725aCalls
namespace Go.Proofs.Qxb6612725a
open Go

theorem two_pow (k : Nat) : (2 : Int) ^ k = ((2 ^ k : Nat) : Int) := by rw [Int.natCast_pow]; rfl
theorem pow_pos (k : Nat) : 0 < 2 ^ k := Nat.pow_pos (by decide)

/-- 'v << S' where no bit is lost. -/
theorem shl_fits (u S : Nat) (h : u * 2 ^ S < 4294967296) : (u : Int) * 2 ^ S % 4294967296 = ((u * 2 ^ S : Nat) : Int) := by
  rw [two_pow, ← Int.natCast_mul]
  generalize u * 2 ^ S = x at h
  omega
theorem shr_back (u S : Nat) : ((u * 2 ^ S : Nat) : Int) / 2 ^ S = (u : Int) := by
  rw [two_pow, ← Int.natCast_ediv, Nat.mul_div_cancel _ (pow_pos S)]
/-- 'v << S' where a bit is lost: shifting back does not give v. -/
theorem shl_loses (u S : Nat) (h : ¬ u * 2 ^ S < 4294967296) : ((u : Int) * 2 ^ S % 4294967296 / 2 ^ S != (u : Int)) = true := by
  rw [bne_iff_ne, two_pow, ← Int.natCast_mul]
  intro e
  have e' : (((u * 2 ^ S) % 4294967296 / 2 ^ S : Nat) : Int) = (u : Int) := by
    rw [Int.natCast_ediv, Int.natCast_emod]
    exact e
  have e2 : (u * 2 ^ S) % 4294967296 / 2 ^ S = u := Int.ofNat.inj e'
  have h3 := Nat.div_mul_le_self ((u * 2 ^ S) % 4294967296) (2 ^ S)
  rw [e2] at h3
  have h4 := Nat.mod_lt (u * 2 ^ S) (show 0 < 4294967296 by decide)
  omega

theorem lg_shift (u S : Nat) (h1 : 1 ≤ u) (h2 : u < 4294967296) (h : u * 2 ^ S < 4294967296) : lg (u * 2 ^ S) = lg u + S := by
  obtain ⟨a, b, _, _⟩ := lg_bounds u h1 h2
  have hp := pow_pos S
  refine (lg_unique (u * 2 ^ S) (lg u + S) (Nat.le_trans h1 (Nat.le_mul_of_pos_right u hp)) h ?_ ?_).symm
  · rw [Nat.pow_add]
    exact Nat.mul_le_mul_right _ a
  · rw [show lg u + S + 1 = (lg u + 1) + S by omega, Nat.pow_add]
    exact Nat.mul_lt_mul_of_pos_right b hp

theorem shr_lg (u : Nat) (h1 : 1 ≤ u) (h2 : u < 4294967296) : (u : Int) / 2 ^ lg u = 1 := by
  obtain ⟨a, b, _, _⟩ := lg_bounds u h1 h2
  rw [two_pow, ← Int.natCast_ediv]
  have : u / 2 ^ lg u = 1 := by
    rw [Nat.pow_succ] at b
    exact Nat.div_eq_of_lt_le (by omega) (by omega)
  rw [this]
  rfl
end Go.Proofs.Qxb6612725a
