/-
  ofCode and its callees, by a contract; the plain facts on the highest bit.
-/
import Derived.Test.Qxb6612725aShelf
import Derived.Lib.ItoaNum
import Derived.WalkKit
import Derived.WalkSpells
namespace Go.Proofs.Qxb6612725a
open Go Go.RowKit

/-- The index of the highest bit of u. -/
def lg (u : Nat) : Nat := Lib.bitLen u - 1

theorem lg_bounds (u : Nat) (h1 : 1 ≤ u) (h2 : u < 4294967296) : 2 ^ lg u ≤ u ∧ u < 2 ^ (lg u + 1) ∧ lg u ≤ 31 ∧ Lib.bitLen u = lg u + 1 := by
  have hb := Lib.bitLenAux_bounds 64 u (Nat.lt_trans h2 (by decide)) (by omega)
  have hl := Lib.bitLen_le u 32 (by decide) h2
  unfold lg Lib.bitLen at *
  obtain ⟨a, b, c⟩ := hb
  rw [show Lib.bitLenAux 64 u - 1 + 1 = Lib.bitLenAux 64 u by omega]
  exact ⟨b, c, by omega, rfl⟩

theorem pow_lt_iff {a b : Nat} (h : 2 ^ a < 2 ^ b) : a < b := (Nat.pow_lt_pow_iff_right (by decide)).1 h

/-- The highest bit's index is the only one. -/
theorem lg_unique (u c : Nat) (h1 : 1 ≤ u) (h2 : u < 4294967296) (a : 2 ^ c ≤ u) (b : u < 2 ^ (c + 1)) : c = lg u := by
  obtain ⟨x, y, _, _⟩ := lg_bounds u h1 h2
  have p : c < lg u + 1 := pow_lt_iff (Nat.lt_of_le_of_lt a y)
  have q : lg u < c + 1 := pow_lt_iff (Nat.lt_of_le_of_lt x b)
  omega

set_option maxHeartbeats 400000 in
theorem high_any (v : Int) (c : Nat) (h0 : 0 ≤ v) (h1 : v ≤ 4294967295) (hc : Hid (Lib.bitLen v.toNat = c + 1)) (hc31 : c ≤ 31) (w : World) : Calls Try.prog 12 #[.int .u32 v] w fun e w' => e = .returned (.int .u64 (c : Int)) ∧ w' = w := by
  have k := Try.bits_Len32 v w h0 h1
  rw [hc.out] at k
  go_enter Try.func12, Try.ntmps12
  go_wp2_with fail
  refine k.mono ?_
  rintro e w' ⟨rfl, rfl⟩
  clear k
  go_wp2
  go_ret
  exact ⟨rfl, rfl⟩
set_option maxHeartbeats 400000 in
theorem of_any (v : Int) (c : Nat) (h0 : 0 ≤ v) (h1 : v ≤ 4294967295) (hc : Hid (Lib.bitLen v.toNat = c + 1)) (hc31 : c ≤ 31) (w : World) : Calls Try.prog 10 #[.int .u32 v] w fun e w' => e = .returned (.int .u8 (c : Int)) ∧ w' = w := by
  go_enter Try.func10, Try.ntmps10
  go_wp2_with fail
  refine (high_any v c h0 h1 hc hc31 _).mono ?_
  rintro e w' ⟨rfl, rfl⟩
  go_wp2
  go_ret
  exact ⟨rfl, rfl⟩
set_option maxHeartbeats 400000 in
theorem zzof_any (v : Int) (c : Nat) (h0 : 0 ≤ v) (h1 : v ≤ 4294967295) (hc : Hid (Lib.bitLen v.toNat = c + 1)) (hc31 : c ≤ 31) (w : World) : Calls Try.prog 6 #[.int .u32 v] w fun e w' => e = .returned (.int .u8 (c : Int)) ∧ w' = w := by
  go_enter Try.func6, Try.ntmps6
  go_wp2_with fail
  refine (of_any v c h0 h1 hc hc31 _).mono ?_
  rintro e w' ⟨rfl, rfl⟩
  go_wp2
  go_ret
  exact ⟨rfl, rfl⟩
end Go.Proofs.Qxb6612725a
