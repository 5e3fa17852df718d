/-
  The callees of the two laws, each by a contract: retryAfter, ZZRetryAfter, zzParseDecimal.
-/
import Derived.Test.Qxb6609569aDoorShelf
import Derived.Test.Qxb6609569aDoorPlain
import Derived.WalkKit
import Derived.WalkSpells
namespace Go.Proofs.Qxb6609569aDoor
open Go Go.RowKit Go.Lib

theorem itoa_of (x : Int) (u : Nat) (h : x = u) : itoa x = decDigits u := by rw [h]; exact itoa_nonneg u
theorem big_q : wrap64 ((wrap64 (wrap64 9223372036854775808 - 1)).tdiv 1000000000) = 9223372036 := by decide +kernel

set_option maxHeartbeats 400000 in
theorem retry_any (x : Int) (u : Nat) (h0 : 0 < x) (h1 : x ≤ 9223372035854775808) (hu : Hid ((x + 999999999) / 1000000000 = (u : Int))) (w : World)
    (htab : TabIs Tryd.prog w powName .u64 pow10Tab) :
    Calls Tryd.prog 8 #[.int .i64 x] w fun e w' => e = .returned (.string ⟨(decDigits u).toArray⟩) ∧ ∃ k os, w' = Sort.grow (w.drewN k) os := by
  by_cases hx : x = 9223372035854775808
  · have eu := hu.out
    subst hx
    have e2 : itoa 9223372036 = decDigits u := itoa_of _ _ (by rw [← eu]; decide)
    go_enter Tryd.func8, Tryd.ntmps8
    go_wp2_with fail
    rw [big_q]
    refine (Tryd.strconv_Itoa 9223372036 (by decide) (by decide) w htab).mono ?_
    rintro e w' ⟨rfl, k, os, rfl⟩
    rw [e2]
    clear e2 eu h0 h1
    go_wp2
    go_ret
    exact ⟨rfl, k, os, rfl⟩
  · have h2 : x < 9223372035854775808 := by omega
    have e2 : itoa ((x + 1000000000 - 1) / 1000000000) = decDigits u := itoa_of _ _ (by have := hu.out; omega)
    have h3 : (x + 1000000000 - 1) / 1000000000 ≤ 9223372036 := by omega
    have h4 : 0 ≤ (x + 1000000000 - 1) / 1000000000 := by omega
    have E2 : Hid (itoa ((x + 1000000000 - 1) / 1000000000) = decDigits u) := e2
    clear hx h1 e2
    go_enter Tryd.func8, Tryd.ntmps8
    go_wp2_with fail
    refine (Tryd.strconv_Itoa _ (by omega) (by omega) w htab).mono ?_
    rintro e w' ⟨rfl, k, os, rfl⟩
    rw [E2.out]
    go_wp2
    go_ret
    exact ⟨rfl, k, os, rfl⟩

set_option maxHeartbeats 400000 in
theorem zzretry_any (x : Int) (u : Nat) (h0 : 0 < x) (h1 : x ≤ 9223372035854775808) (hu : Hid ((x + 999999999) / 1000000000 = (u : Int))) (w : World)
    (htab : TabIs Tryd.prog w powName .u64 pow10Tab) :
    Calls Tryd.prog 5 #[.int .i64 x] w fun e w' => e = .returned (.string ⟨(decDigits u).toArray⟩) ∧ ∃ k os, w' = Sort.grow (w.drewN k) os := by
  go_enter Tryd.func5, Tryd.ntmps5
  go_wp2_with fail
  refine (retry_any x u h0 h1 hu w htab).mono ?_
  rintro e w' ⟨rfl, k, os, rfl⟩
  go_wp2
  go_ret
  exact ⟨rfl, k, os, rfl⟩

/-- zzParseDecimal over whatever string of digits whose running numbers are 'A 0 .. A size'. -/
theorem ret_pair {a b : Int} (h : a = b) : Ending.returned (.tuple #[.int .i64 a, .bool true]) = .returned (.tuple #[.int .i64 b, .bool true]) := by rw [h]

set_option maxHeartbeats 400000 in
theorem parse_core (s : ByteArray) (A : Nat → Int) (hs1 : 1 ≤ s.size) (hs2 : s.size ≤ 18) (hf : (49 : Int) ≤ ((s[0]'(by omega)).toNat : Int))
    (hd : ∀ k (h : k < s.size), 48 ≤ ((s[k]).toNat : Int) ∧ ((s[k]).toNat : Int) ≤ 57)
    (hA : ∀ k (h : k < s.size), Hid (A (k + 1) = A k * 10 + (((s[k]).toNat : Int) - 48))) (hA0 : Hid (A 0 = 0)) (hAb : ∀ k, 0 ≤ A k ∧ A k ≤ 10000000000) (w : World) :
    Calls Tryd.prog 6 #[.string s] w fun e w' => e = .returned (.tuple #[.int .i64 (A s.size), .bool true]) ∧ w' = w := by
  have hn0 : ((s.size : Int) == 0) = false := by rw [beq_eq_false_iff_ne]; omega
  have hn48 : (((s[0]'(by omega)).toNat : Int) == 48) = false := by rw [beq_eq_false_iff_ne]; omega
  go_enter Tryd.func6, Tryd.ntmps6
  go_wp2
  go_loop [4, 5] (fun n i => ∃ k : Nat, k ≤ s.size ∧ i = .int .i64 k ∧ n = .int .i64 (A k)) (fun _ i => s.size - (RowKit.intOf i).toNat)
  case atStart => exact ⟨0, Nat.zero_le _, rfl, by rw [hA0.out]⟩
  case round =>
    obtain ⟨k, hk, rfl, rfl⟩ := hrel
    have hb := hAb k
    by_cases hlt : k < s.size
    · have hdk := hd k hlt
      have hstep := hA k hlt
      clear hd hA hf hn48 hn0 hAb
      go_wp2
      all_goals
        go_round
        case rel => exact ⟨k + 1, by omega, by go_num, by rw [hstep.out]⟩
        case measure => simp [RowKit.intOf]; omega
    · clear hd hA hf hn48 hn0 hAb
      go_wp2
      go_ret2
      have e : k = s.size := by omega
      exact ⟨ret_pair (by rw [e]), rfl⟩

theorem parse_any (u : Nat) (h1 : 1 ≤ u) (h2 : u ≤ 10000000000) (w : World) :
    Calls Tryd.prog 6 #[.string ⟨(decDigits u).toArray⟩] w fun e w' => e = .returned (.tuple #[.int .i64 (u : Int), .bool true]) ∧ w' = w := by
  have hl := decDigits_length u
  have hp := nDigits_pos u
  have h11 := nDigits_le11 u h2
  have hsz : (⟨(decDigits u).toArray⟩ : ByteArray).size = nDigits u := by rw [← hl]; simp [ByteArray.size]
  have hat : ∀ k (h : k < (⟨(decDigits u).toArray⟩ : ByteArray).size), (((⟨(decDigits u).toArray⟩ : ByteArray)[k]).toNat : Int) = 48 + (dig u (nDigits u) k : Int) := fun k h => by
    have := decDigits_at u k (by rw [hl]; omega)
    have e : ((⟨(decDigits u).toArray⟩ : ByteArray)[k]) = (decDigits u)[k]'(by rw [hl]; omega) := rfl
    rw [e, this]
    omega
  have h := parse_core ⟨(decDigits u).toArray⟩ (fun k => (pre u (nDigits u) k : Int)) (by omega) (by omega)
    (by rw [hat 0 (by omega)]; have := first_ne u h1; omega)
    (fun k hk => by rw [hat k hk]; have := dig_lt u (nDigits u) k; omega)
    (fun k hk => by
      show ((pre u (nDigits u) (k + 1) : Nat) : Int) = _
      rw [hat k hk, pre_succ u (nDigits u) k (by omega)]
      omega)
    (by show ((pre u (nDigits u) 0 : Nat) : Int) = 0; rw [pre_zero]; rfl)
    (fun k => by have := pre_le u (nDigits u) k; show 0 ≤ ((pre u (nDigits u) k : Nat) : Int) ∧ ((pre u (nDigits u) k : Nat) : Int) ≤ _; omega) w
  refine h.mono ?_
  rintro e w' ⟨rfl, rfl⟩
  refine ⟨ret_pair ?_, rfl⟩
  show ((pre u (nDigits u) _ : Nat) : Int) = _
  rw [hsz, pre_full]
end Go.Proofs.Qxb6609569aDoor
