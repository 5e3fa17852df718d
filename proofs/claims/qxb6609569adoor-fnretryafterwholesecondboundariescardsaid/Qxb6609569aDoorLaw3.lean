/-
  The first law's walk: FnRetryAfterIsSecondsRoundedUp returns true.
-/
import Derived.Test.Qxb6609569aDoorCalls
namespace Go.Proofs.Qxb6609569aDoor
open Go Go.RowKit Go.Lib

/-- A world that has only grown and drawn keeps all that was there. -/
theorem below_grow (w : World) (k : Nat) (os : Array Obj) : Below w.heap.size w (Sort.grow (w.drewN k) os) :=
  ⟨rfl, rfl, rfl, by rw [Sort.size_grow]; exact Nat.le_add_right _ _, fun i hi => Sort.heap_grow_old (w.drewN k) os (k := i) hi⟩

set_option maxHeartbeats 400000 in
theorem law3_low (x : Int) (h : x ≤ 0) (w : World) : Calls Tryd.prog 3 #[.int .i64 x] w fun e w' => e = .returned (.bool true) ∧ w' = w := by
  go_enter Tryd.func3, Tryd.ntmps3
  go_wp2
  go_ret
  exact ⟨rfl, rfl⟩
set_option maxHeartbeats 400000 in
theorem law3_high (x : Int) (h : 9223372035854775808 < x) (w : World) : Calls Tryd.prog 3 #[.int .i64 x] w fun e w' => e = .returned (.bool true) ∧ w' = w := by
  go_enter Tryd.func3, Tryd.ntmps3
  go_wp2
  go_ret
  exact ⟨rfl, rfl⟩
set_option maxHeartbeats 400000 in
theorem law3_mid (x : Int) (h0 : 0 < x) (h1 : x ≤ 9223372035854775808) (w : World) (htab : TabIs Tryd.prog w powName .u64 pow10Tab) :
    Calls Tryd.prog 3 #[.int .i64 x] w fun e w' => e = .returned (.bool true) ∧ Below w.heap.size w w' := by
  obtain ⟨u, hu⟩ : ∃ u : Nat, Hid ((x + 999999999) / 1000000000 = (u : Int)) := ⟨((x + 999999999) / 1000000000).toNat, by unfold Hid; omega⟩
  have hu1 : 1 ≤ u := by have := hu.out; omega
  have hu2 : u ≤ 9223372036 := by have := hu.out; omega
  have hq : x / 1000000000 ≤ 9223372035 := by omega
  have hq0 : 0 ≤ x / 1000000000 := by omega
  have hq1 : (u : Int) - 1 ≤ x / 1000000000 := by have := hu.out; omega
  have hl : ((u : Int) - 1) * 1000000000 < x := by have := hu.out; omega
  have hr : x - ((u : Int) - 1) * 1000000000 ≤ 1000000000 := by have := hu.out; omega
  go_enter Tryd.func3, Tryd.ntmps3
  go_wp2_with fail
  refine (zzretry_any x u h0 h1 hu w htab).mono ?_
  rintro e w' ⟨rfl, k, os, rfl⟩
  go_wp2_with fail
  refine (parse_any u hu1 (by omega) _).mono ?_
  rintro e w' ⟨rfl, rfl⟩
  go_wp2
  go_ret
  exact ⟨rfl, below_grow w k os⟩

theorem law3_any (x : Int) (w : World) (htab : TabIs Tryd.prog w powName .u64 pow10Tab) :
    Calls Tryd.prog 3 #[.int .i64 x] w fun e w' => e = .returned (.bool true) ∧ Below w.heap.size w w' := by
  by_cases h0 : x ≤ 0
  · exact (law3_low x h0 w).mono fun e w' ⟨h, hw⟩ => ⟨h, by subst hw; exact Below.refl _ _⟩
  · by_cases h1 : x ≤ 9223372035854775808
    · exact law3_mid x (by omega) h1 w htab
    · exact (law3_high x (by omega) w).mono fun e w' ⟨h, hw⟩ => ⟨h, by subst hw; exact Below.refl _ _⟩
end Go.Proofs.Qxb6609569aDoor
