/-
  FnOfCodeMonotoneAndEqualExactlyInOneOctave: the walk.
-/
import Derived.Test.Qxb6612725aXor
namespace Go.Proofs.Qxb6612725a
open Go Go.RowKit

set_option maxHeartbeats 400000 in
theorem law4_zero_a (b : Int) (w : World) : Calls Try.prog 4 #[.int .u32 0, .int .u32 b] w fun e w' => e = .returned (.bool true) ∧ w' = w := by
  go_enter Try.func4, Try.ntmps4
  go_wp2
  go_ret
  exact ⟨rfl, rfl⟩
set_option maxHeartbeats 400000 in
theorem law4_zero_b (a : Int) (ha : (a == 0) = false) (w : World) : Calls Try.prog 4 #[.int .u32 a, .int .u32 0] w fun e w' => e = .returned (.bool true) ∧ w' = w := by
  go_enter Try.func4, Try.ntmps4
  go_wp2
  go_ret
  exact ⟨rfl, rfl⟩

set_option maxHeartbeats 400000 in
theorem law4_up (A B c d X p q : Nat) (sb : Bool) (h1 : 1 ≤ A) (h : A ≤ B) (h2 : B < 4294967296) (kA : Hid (Lib.bitLen A = c + 1)) (kB : Hid (Lib.bitLen B = c + d + 1)) (hc : c + d ≤ 31)
    (e1 : (A : Int) * 2 ^ d % 4294967296 = (X : Int)) (e2 : (X : Int) / 2 ^ d = (A : Int)) (x1 : bits .xor .u32 (A : Int) (B : Int) = (p : Int)) (x2 : bits .xor .u32 (X : Int) (B : Int) = (q : Int)) (q1 : q < X) (q2 : q < B)
    (s1 : ((c : Int) == (c : Int) + (d : Int)) = sb) (s2 : decide (p < A) = sb) (w : World) :
    Calls Try.prog 4 #[.int .u32 (A : Int), .int .u32 (B : Int)] w fun e w' => e = .returned (.bool true) ∧ w' = w := by
  have ha0 : ((A : Int) == 0) = false := by rw [beq_eq_false_iff_ne]; omega
  have hb0 : ((B : Int) == 0) = false := by rw [beq_eq_false_iff_ne]; omega
  go_enter Try.func4, Try.ntmps4
  go_wp2_with fail
  refine (zzof_any (A : Int) c (by omega) (by omega) (by rw [Int.toNat_natCast]; exact kA.out) (by omega) _).mono ?_
  rintro e w' ⟨rfl, rfl⟩
  go_wp2_with fail
  refine (zzof_any (B : Int) (c + d) (by omega) (by omega) (by rw [Int.toNat_natCast]; exact kB.out) (by omega) _).mono ?_
  rintro e w' ⟨rfl, rfl⟩
  go_wp2
  go_ret
  exact ⟨rfl, rfl⟩
set_option maxHeartbeats 400000 in
/-- The same, the greater one first: the law turns them round. -/
theorem law4_down (A B c d X p q : Nat) (sb : Bool) (h1 : 1 ≤ A) (h : A < B) (h2 : B < 4294967296) (kA : Hid (Lib.bitLen A = c + 1)) (kB : Hid (Lib.bitLen B = c + d + 1)) (hc : c + d ≤ 31)
    (e1 : (A : Int) * 2 ^ d % 4294967296 = (X : Int)) (e2 : (X : Int) / 2 ^ d = (A : Int)) (x1 : bits .xor .u32 (A : Int) (B : Int) = (p : Int)) (x2 : bits .xor .u32 (X : Int) (B : Int) = (q : Int)) (q1 : q < X) (q2 : q < B)
    (s1 : ((c : Int) == (c : Int) + (d : Int)) = sb) (s2 : decide (p < A) = sb) (w : World) :
    Calls Try.prog 4 #[.int .u32 (B : Int), .int .u32 (A : Int)] w fun e w' => e = .returned (.bool true) ∧ w' = w := by
  have ha0 : ((A : Int) == 0) = false := by rw [beq_eq_false_iff_ne]; omega
  have hb0 : ((B : Int) == 0) = false := by rw [beq_eq_false_iff_ne]; omega
  go_enter Try.func4, Try.ntmps4
  go_wp2_with fail
  refine (zzof_any (A : Int) c (by omega) (by omega) (by rw [Int.toNat_natCast]; exact kA.out) (by omega) _).mono ?_
  rintro e w' ⟨rfl, rfl⟩
  go_wp2_with fail
  refine (zzof_any (B : Int) (c + d) (by omega) (by omega) (by rw [Int.toNat_natCast]; exact kB.out) (by omega) _).mono ?_
  rintro e w' ⟨rfl, rfl⟩
  go_wp2
  go_ret
  exact ⟨rfl, rfl⟩

theorem law4_any (a b : Int) (ha0 : 0 ≤ a) (ha1 : a ≤ 4294967295) (hb0 : 0 ≤ b) (hb1 : b ≤ 4294967295) (w : World) : Calls Try.prog 4 #[.int .u32 a, .int .u32 b] w fun e w' => e = .returned (.bool true) ∧ w' = w := by
  obtain ⟨A, rfl⟩ : ∃ A : Nat, a = A := ⟨a.toNat, by omega⟩
  obtain ⟨B, rfl⟩ : ∃ B : Nat, b = B := ⟨b.toNat, by omega⟩
  by_cases z1 : A = 0
  · subst z1; exact law4_zero_a _ w
  · by_cases z2 : B = 0
    · subst z2; exact law4_zero_b _ (by rw [beq_eq_false_iff_ne]; omega) w
    · have sc : ∀ c d p x : Nat, (d = 0 ↔ p < x) → ∃ sb : Bool, ((c : Int) == (c : Int) + (d : Int)) = sb ∧ decide (p < x) = sb := fun c d p x hi => by
        by_cases h0 : d = 0
        · exact ⟨true, by rw [beq_iff_eq]; omega, decide_eq_true (hi.1 h0)⟩
        · exact ⟨false, by rw [beq_eq_false_iff_ne]; omega, decide_eq_false (fun h => h0 (hi.2 h))⟩
      by_cases h : A ≤ B
      · obtain ⟨c, d, X, p, q, kA, kB, hc, eX, hX, ep, eq, q1, q2, hi⟩ := octaves A B (by omega) h (by omega)
        obtain ⟨sb, s1, s2⟩ := sc c d p A hi
        refine law4_up A B c d X p q sb (by omega) h (by omega) kA kB hc (by rw [eX]; exact shl_fits A d (by rw [← eX]; exact hX)) (by rw [eX]; exact shr_back A d) ?_ ?_ q1 q2 s1 s2 w
        · rw [ep]; exact u32_xor_nat A B (by omega) (by omega)
        · rw [eq]; exact u32_xor_nat X B hX (by omega)
      · obtain ⟨c, d, X, p, q, kA, kB, hc, eX, hX, ep, eq, q1, q2, hi⟩ := octaves B A (by omega) (by omega) (by omega)
        obtain ⟨sb, s1, s2⟩ := sc c d p B hi
        refine law4_down B A c d X p q sb (by omega) (by omega) (by omega) kA kB hc (by rw [eX]; exact shl_fits B d (by rw [← eX]; exact hX)) (by rw [eX]; exact shr_back B d) ?_ ?_ q1 q2 s1 s2 w
        · rw [ep]; exact u32_xor_nat B A (by omega) (by omega)
        · rw [eq]; exact u32_xor_nat X A hX (by omega)
end Go.Proofs.Qxb6612725a
