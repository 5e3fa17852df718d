/-
  FnOfCodeIsBucketAndShiftAddsToIt: the walk.
-/
import Derived.Test.Qxb6612725aPlain
namespace Go.Proofs.Qxb6612725a
open Go Go.RowKit

set_option maxHeartbeats 400000 in
theorem law3_zero (s : Int) (w : World) : Calls Try.prog 3 #[.int .u32 0, .int .u64 s] w fun e w' => e = .returned (.bool true) ∧ w' = w := by
  go_enter Try.func3, Try.ntmps3
  go_wp2
  go_ret
  exact ⟨rfl, rfl⟩
set_option maxHeartbeats 400000 in
theorem law3_far (v s : Int) (hv : (v == 0) = false) (hs : 31 < s) (w : World) : Calls Try.prog 3 #[.int .u32 v, .int .u64 s] w fun e w' => e = .returned (.bool true) ∧ w' = w := by
  go_enter Try.func3, Try.ntmps3
  go_wp2
  go_ret
  exact ⟨rfl, rfl⟩
set_option maxHeartbeats 400000 in
theorem law3_lost (u S : Nat) (h1 : 1 ≤ u) (h2 : u ≤ 4294967295) (hS : S ≤ 31) (h : ¬ u * 2 ^ S < 4294967296) (w : World) : Calls Try.prog 3 #[.int .u32 (u : Int), .int .u64 (S : Int)] w fun e w' => e = .returned (.bool true) ∧ w' = w := by
  have hu0 : ((u : Int) == 0) = false := by rw [beq_eq_false_iff_ne]; omega
  have hl := shl_loses u S h
  clear h
  go_enter Try.func3, Try.ntmps3
  go_wp2
  go_ret
  exact ⟨rfl, rfl⟩
set_option maxHeartbeats 400000 in
theorem law3_fits (u S : Nat) (h1 : 1 ≤ u) (h2 : u ≤ 4294967295) (hS : S ≤ 31) (h : u * 2 ^ S < 4294967296) (w : World) : Calls Try.prog 3 #[.int .u32 (u : Int), .int .u64 (S : Int)] w fun e w' => e = .returned (.bool true) ∧ w' = w := by
  have hu0 : ((u : Int) == 0) = false := by rw [beq_eq_false_iff_ne]; omega
  have e1 := shl_fits u S h
  have e2 := shr_back u S
  have e3 := shr_lg u h1 (by omega)
  have hb := lg_bounds u h1 (by omega)
  have hx1 : 1 ≤ u * 2 ^ S := Nat.le_trans h1 (Nat.le_mul_of_pos_right u (pow_pos S))
  have hbx := lg_bounds (u * 2 ^ S) hx1 h
  have hlx := lg_shift u S h1 (by omega) h
  rw [hlx] at hbx
  have kx : Hid (Lib.bitLen (u * 2 ^ S) = lg u + S + 1) := hbx.2.2.2
  have ku : Hid (Lib.bitLen u = lg u + 1) := hb.2.2.2
  have b31 : lg u + S ≤ 31 := hbx.2.2.1
  clear hb hbx hlx
  generalize hx : u * 2 ^ S = x at e1 e2 h hx1 kx
  generalize hc : lg u = c at e3 kx ku b31
  clear hx hc
  go_enter Try.func3, Try.ntmps3
  go_wp2_with fail
  refine (zzof_any (u : Int) c (by omega) (by omega) (by rw [Int.toNat_natCast]; exact ku.out) (by omega) _).mono ?_
  rintro e w' ⟨rfl, rfl⟩
  go_wp2_with fail
  refine (zzof_any (x : Int) (c + S) (by omega) (by omega) (by rw [Int.toNat_natCast]; exact kx.out) (by omega) _).mono ?_
  rintro e w' ⟨rfl, rfl⟩
  go_wp2
  go_ret
  exact ⟨rfl, rfl⟩
theorem law3_any (v s : Int) (hv0 : 0 ≤ v) (hv1 : v ≤ 4294967295) (hs0 : 0 ≤ s) (w : World) : Calls Try.prog 3 #[.int .u32 v, .int .u64 s] w fun e w' => e = .returned (.bool true) ∧ w' = w := by
  obtain ⟨u, rfl⟩ : ∃ u : Nat, v = u := ⟨v.toNat, by omega⟩
  obtain ⟨S, rfl⟩ : ∃ S : Nat, s = S := ⟨s.toNat, by omega⟩
  by_cases h0 : u = 0
  · subst h0; exact law3_zero _ w
  · by_cases h31 : S ≤ 31
    · by_cases h : u * 2 ^ S < 4294967296
      · exact law3_fits u S (by omega) (by omega) h31 h w
      · exact law3_lost u S (by omega) (by omega) h31 h w
    · exact law3_far _ _ (by rw [beq_eq_false_iff_ne]; omega) (by omega) w
end Go.Proofs.Qxb6612725a
