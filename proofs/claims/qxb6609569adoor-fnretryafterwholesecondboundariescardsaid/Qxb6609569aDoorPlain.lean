/-
  Plain facts on decimal numerals (no Go in sight): the digits of a number from 1 to 10^10, read from the left.
-/
import Derived.Lib.ItoaNum
import Derived.Lib.ItoaMem
namespace Go.Proofs.Qxb6609569aDoor
open Go Go.Lib

/-- The number that the first k digits of a numeral of n digits make. -/
def pre (u n k : Nat) : Nat := u / 10 ^ (n - k)

theorem pre_zero (u : Nat) : pre u (nDigits u) 0 = 0 := by
  unfold pre
  rw [Nat.sub_zero]
  exact Nat.div_eq_of_lt (lt_pow_nDigits u)
theorem pre_full (u n : Nat) : pre u n n = u := by
  unfold pre
  rw [Nat.sub_self, Nat.pow_zero, Nat.div_one]
theorem pre_le (u n k : Nat) : pre u n k ≤ u := Nat.div_le_self _ _

/-- The digit at place k from the left. -/
def dig (u n k : Nat) : Nat := u / 10 ^ (n - 1 - k) % 10

theorem pre_succ (u n k : Nat) (h : k < n) : pre u n (k + 1) = pre u n k * 10 + dig u n k := by
  unfold pre dig
  rw [show n - k = (n - 1 - k) + 1 by omega, show n - (k + 1) = n - 1 - k by omega, Nat.pow_succ, ← Nat.div_div_eq_div_mul]
  omega

theorem dig_lt (u n k : Nat) : dig u n k < 10 := Nat.mod_lt _ (by decide)

theorem decDigits_at (u k : Nat) (h : k < (decDigits u).length) : ((decDigits u)[k]).toNat = 48 + dig u (nDigits u) k := by
  have hl := decDigits_length u
  have e : (decDigits u)[k] = dg u (nDigits u - 1 - k) := by
    have h2 := decDigits_eq u
    have : (decDigits u)[k]? = some (dg u (nDigits u - 1 - k)) := by
      rw [h2, List.getElem?_map, List.getElem?_range (by omega)]
      rfl
    rw [List.getElem?_eq_getElem h] at this
    exact Option.some.inj this
  rw [e]
  unfold dg dig
  have := Nat.mod_lt (u / 10 ^ (nDigits u - 1 - k)) (show 0 < 10 by decide)
  rw [UInt8.toNat_ofNat']
  omega

theorem pow_le_nDigits (u : Nat) (h : 1 ≤ u) : 10 ^ (nDigits u - 1) ≤ u := by
  induction u using Nat.strongRecOn with
  | _ u ih =>
    by_cases hs : u < 10
    · rw [nDigits_small hs]; simpa using h
    · rw [nDigits_big hs]
      have h1 := ih (u / 10) (by omega) (by omega)
      obtain ⟨j, hj⟩ : ∃ j, nDigits (u / 10) = j + 1 := ⟨nDigits (u / 10) - 1, by have := nDigits_pos (u / 10); omega⟩
      rw [hj] at h1 ⊢
      simp only [Nat.add_sub_cancel] at h1 ⊢
      rw [Nat.pow_succ]
      omega

theorem first_ne (u : Nat) (h : 1 ≤ u) : 1 ≤ dig u (nDigits u) 0 := by
  have h1 := pow_le_nDigits u h
  have h2 := lt_pow_nDigits u
  have hn := nDigits_pos u
  unfold dig
  rw [Nat.sub_zero]
  obtain ⟨j, hj⟩ : ∃ j, nDigits u = j + 1 := ⟨nDigits u - 1, by omega⟩
  rw [hj] at h1 h2 ⊢
  simp only [Nat.add_sub_cancel] at h1 ⊢
  rw [Nat.pow_succ] at h2
  have hp : 1 ≤ 10 ^ j := Nat.one_le_pow _ _ (by decide)
  have a : 1 ≤ u / 10 ^ j := (Nat.le_div_iff_mul_le (by omega)).2 (by omega)
  have b : u / 10 ^ j < 10 := (Nat.div_lt_iff_lt_mul (by omega)).2 (by omega)
  omega

theorem nDigits_le11 (u : Nat) (h : u ≤ 10000000000) : nDigits u ≤ 11 := by
  rcases Nat.eq_zero_or_pos u with rfl | h1
  · rw [nDigits_small (by omega)]; omega
  · have h2 := pow_le_nDigits u h1
    rcases Nat.lt_or_ge (nDigits u - 1) 11 with h3 | h3
    · omega
    · have := Nat.pow_le_pow_right (n := 10) (by decide) h3
      have e : (10 : Nat) ^ 11 = 100000000000 := by decide
      omega
end Go.Proofs.Qxb6609569aDoor
