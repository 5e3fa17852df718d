/-
  Plain facts on the exclusive or of two numbers by their highest bits (no Go in sight).
-/
import Derived.Test.Qxb6612725aPlain
import Derived.Laws.BitsAllLaws
namespace Go.Proofs.Qxb6612725a
open Go

theorem top_bit (x c : Nat) (a : 2 ^ c ≤ x) (b : x < 2 ^ (c + 1)) : x.testBit c = true := Nat.testBit_of_two_pow_le_and_two_pow_add_one_gt a b

/-- One octave: the exclusive or lies below the octave's foot. -/
theorem xor_same (x y c : Nat) (a : 2 ^ c ≤ x) (b : x < 2 ^ (c + 1)) (a' : 2 ^ c ≤ y) (b' : y < 2 ^ (c + 1)) : x ^^^ y < 2 ^ c := by
  apply Nat.lt_pow_two_of_testBit
  intro i hi
  rw [Nat.testBit_xor]
  by_cases h : i = c
  · subst h
    rw [top_bit x i a b, top_bit y i a' b']
    rfl
  · have hp : 2 ^ (c + 1) ≤ 2 ^ i := Nat.pow_le_pow_right (by decide) (by omega)
    rw [Nat.testBit_lt_two_pow (Nat.lt_of_lt_of_le b hp), Nat.testBit_lt_two_pow (Nat.lt_of_lt_of_le b' hp)]
    rfl
/-- Two octaves: the exclusive or bears the higher one's highest bit. -/
theorem xor_other (x y c : Nat) (a : x < 2 ^ c) (a' : 2 ^ c ≤ y) (b' : y < 2 ^ (c + 1)) : 2 ^ c ≤ x ^^^ y := by
  apply Nat.ge_two_pow_of_testBit
  rw [Nat.testBit_xor, top_bit y c a' b', Nat.testBit_lt_two_pow a]
  rfl

theorem lg_mono (x y : Nat) (h1 : 1 ≤ x) (h : x ≤ y) (h2 : y < 4294967296) : lg x ≤ lg y := by
  obtain ⟨a, _, _, _⟩ := lg_bounds x h1 (by omega)
  obtain ⟨_, b, _, _⟩ := lg_bounds y (by omega) h2
  have := pow_lt_iff (Nat.lt_of_le_of_lt (Nat.le_trans a h) b)
  omega

/-- All that the law asks of two numbers in order. -/
theorem octaves (x y : Nat) (h1 : 1 ≤ x) (h : x ≤ y) (h2 : y < 4294967296) :
    ∃ c d X p q : Nat, Lib.bitLen x = c + 1 ∧ Lib.bitLen y = c + d + 1 ∧ c + d ≤ 31 ∧ X = x * 2 ^ d ∧ X < 4294967296 ∧ p = x ^^^ y ∧ q = X ^^^ y ∧ q < X ∧ q < y ∧ (d = 0 ↔ p < x) := by
  obtain ⟨a, b, _, e⟩ := lg_bounds x h1 (by omega)
  obtain ⟨a', b', c31, e'⟩ := lg_bounds y (by omega) h2
  have hm := lg_mono x y h1 h h2
  obtain ⟨d, hd⟩ : ∃ d, lg y = lg x + d := ⟨lg y - lg x, by omega⟩
  rw [hd] at a' b' c31 e'
  have hX1 : 2 ^ (lg x + d) ≤ x * 2 ^ d := by rw [Nat.pow_add]; exact Nat.mul_le_mul_right _ a
  have hX2 : x * 2 ^ d < 2 ^ (lg x + d + 1) := by
    rw [show lg x + d + 1 = (lg x + 1) + d by omega, Nat.pow_add]
    exact Nat.mul_lt_mul_of_pos_right b (pow_pos d)
  have hX3 : 2 ^ (lg x + d + 1) ≤ 4294967296 := Nat.pow_le_pow_right (n := 2) (by decide) (show lg x + d + 1 ≤ 32 by omega)
  have hq := xor_same (x * 2 ^ d) y (lg x + d) hX1 hX2 a' b'
  refine ⟨lg x, d, x * 2 ^ d, x ^^^ y, (x * 2 ^ d) ^^^ y, e, e', c31, rfl, Nat.lt_of_lt_of_le hX2 hX3, rfl, rfl, Nat.lt_of_lt_of_le hq hX1, Nat.lt_of_lt_of_le hq a', ?_⟩
  constructor
  · intro h0
    rw [h0] at a' b'
    exact Nat.lt_of_lt_of_le (xor_same x y (lg x) a b a' b') a
  · intro hp
    rcases Nat.eq_zero_or_pos d with h0 | h0
    · exact h0
    · have hlt : x < 2 ^ (lg x + d) := Nat.lt_of_lt_of_le b (Nat.pow_le_pow_right (by decide) (by omega))
      have := xor_other x y (lg x + d) hlt a' b'
      omega
end Go.Proofs.Qxb6612725a
