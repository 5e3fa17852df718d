/-
  The second law's walk: FnRetryAfterWholeSecondBoundaries returns true.
-/
import Derived.Test.Qxb6609569aDoorItoa
namespace Go.Proofs.Qxb6609569aDoor
open Go Go.RowKit Go.Lib

theorem tab_keeps {w w' : World} (hb : Below w.heap.size w w') (h : TabIs Tryd.prog w powName .u64 pow10Tab) : TabIs Tryd.prog w' powName .u64 pow10Tab := by
  unfold TabIs World.var? at h ⊢
  cases hg : Tryd.prog.globalNamed powName with
  | none => rw [hg] at h; cases h
  | some g =>
    rw [hg] at h
    simp only [Option.bind_some] at h ⊢
    rcases Nat.lt_or_ge g w.heap.size with hl | hl
    · rw [hb.block g hl]; exact h
    · rw [Array.getElem?_eq_none hl] at h; cases h

theorem zzretry_below (x : Int) (u : Nat) (h0 : 0 < x) (h1 : x ≤ 9223372035854775808) (hu : (x + 999999999) / 1000000000 = (u : Int)) (w : World)
    (htab : TabIs Tryd.prog w powName .u64 pow10Tab) :
    Calls Tryd.prog 5 #[.int .i64 x] w fun e w' => e = .returned (.string ⟨(decDigits u).toArray⟩) ∧ Below w.heap.size w w' ∧ TabIs Tryd.prog w' powName .u64 pow10Tab :=
  (zzretry_any x u h0 h1 hu w htab).mono fun _ _ ⟨he, k, os, hw⟩ => by
    have hb : Below w.heap.size w _ := below_grow w k os
    rw [← hw] at hb
    exact ⟨he, hb, tab_keeps hb htab⟩

set_option maxHeartbeats 400000 in
theorem law4_low (x : Int) (h : x < 1) (w : World) : Calls Tryd.prog 4 #[.int .i64 x] w fun e w' => e = .returned (.bool true) ∧ w' = w := by
  go_enter Tryd.func4, Tryd.ntmps4
  go_wp2
  go_ret
  exact ⟨rfl, rfl⟩
set_option maxHeartbeats 400000 in
theorem law4_high (x : Int) (h : 9223372035 < x) (w : World) : Calls Tryd.prog 4 #[.int .i64 x] w fun e w' => e = .returned (.bool true) ∧ w' = w := by
  have h' : ¬ x < 1 := by omega
  go_enter Tryd.func4, Tryd.ntmps4
  go_wp2
  go_ret
  exact ⟨rfl, rfl⟩
/-- zzItoa's contract at an integer that is not written as a cast. -/
theorem zzitoa_at (x : Int) (u : Nat) (hx : x = (u : Int)) (h1 : 1 ≤ u) (h2 : u ≤ 10000000000) (w : World) :
    Calls Tryd.prog 7 #[.int .i64 x] w fun e w' => e = .returned (.string ⟨(decDigits u).toArray⟩) ∧ Below w.heap.size w w' := by
  rw [hx]; exact zzitoa_any u h1 h2 w

set_option maxHeartbeats 400000 in
theorem law4_mid (x : Int) (u : Nat) (hx : Hid (x = (u : Int))) (h0 : 1 ≤ x) (h1 : x ≤ 9223372035) (w : World) (htab : TabIs Tryd.prog w powName .u64 pow10Tab) :
    Calls Tryd.prog 4 #[.int .i64 x] w fun e w' => e = .returned (.bool true) ∧ Below w.heap.size w w' := by
  have h0' : ¬ x < 1 := by omega
  go_enter Tryd.func4, Tryd.ntmps4
  go_wp2_with fail
  refine (zzretry_below _ u (by omega) (by omega) (by have := hx.out; omega) w htab).mono ?_
  rintro e w1 ⟨rfl, b1, t1⟩
  go_wp2_with fail
  refine (zzretry_below _ u (by omega) (by omega) (by have := hx.out; omega) w1 t1).mono ?_
  rintro e w2 ⟨rfl, b2, t2⟩
  go_wp2_with fail
  refine (zzretry_below _ (u + 1) (by omega) (by omega) (by have := hx.out; omega) w2 t2).mono ?_
  rintro e w3 ⟨rfl, b3, t3⟩
  clear t1 t2 t3 htab
  go_wp2_with fail
  refine (zzitoa_at _ u hx.out (by have := hx.out; omega) (by have := hx.out; omega) w3).mono ?_
  rintro e w4 ⟨rfl, b4⟩
  go_wp2_with fail
  refine (zzitoa_at _ u hx.out (by have := hx.out; omega) (by have := hx.out; omega) w4).mono ?_
  rintro e w5 ⟨rfl, b5⟩
  go_wp2_with fail
  refine (zzitoa_at _ (u + 1) (by have := hx.out; omega) (by omega) (by have := hx.out; omega) w5).mono ?_
  rintro e w6 ⟨rfl, b6⟩
  go_wp2
  go_ret
  refine ⟨rfl, ?_⟩
  exact b1.trans ((b2.mono b1.size).trans ((b3.mono (Nat.le_trans b1.size b2.size)).trans ((b4.mono (Nat.le_trans b1.size (Nat.le_trans b2.size b3.size))).trans ((b5.mono (Nat.le_trans b1.size (Nat.le_trans b2.size (Nat.le_trans b3.size b4.size)))).trans (b6.mono (Nat.le_trans b1.size (Nat.le_trans b2.size (Nat.le_trans b3.size (Nat.le_trans b4.size b5.size)))))))))

theorem law4_any (x : Int) (w : World) (htab : TabIs Tryd.prog w powName .u64 pow10Tab) :
    Calls Tryd.prog 4 #[.int .i64 x] w fun e w' => e = .returned (.bool true) ∧ Below w.heap.size w w' := by
  by_cases h0 : x < 1
  · exact (law4_low x h0 w).mono fun e w' ⟨h, hw⟩ => ⟨h, by subst hw; exact Below.refl _ _⟩
  · by_cases h1 : x ≤ 9223372035
    · exact law4_mid x x.toNat (by unfold Hid; omega) (by omega) h1 w htab
    · exact (law4_high x (by omega) w).mono fun e w' ⟨h, hw⟩ => ⟨h, by subst hw; exact Below.refl _ _⟩
end Go.Proofs.Qxb6609569aDoor
