/-
  The callees of the law, each by a contract; the plain facts on the nine bytes that an account opens with.
-/
import Derived.Test.Qxb6612613aProg
import Derived.WalkKit
import Derived.WalkSpells
namespace Go.Proofs.Qxb6612613a
open Go Go.RowKit

def pfx : ByteArray := ⟨#[101, 120, 112, 101, 110, 115, 101, 115, 58]⟩
/-- The expense account of a payable. -/
def acct (a : ByteArray) : ByteArray := pfx ++ a

theorem pfx_size : pfx.size = 9 := rfl
theorem acct_size (a : ByteArray) : (acct a).size = 9 + a.size := by
  unfold acct
  rw [ByteArray.size_append, pfx_size]
theorem acct_head (a : ByteArray) : (acct a).extract 0 9 = pfx := by
  unfold acct
  rw [← pfx_size, ByteArray.extract_append_eq_left rfl]
theorem acct_tail (a : ByteArray) : (acct a).extract 9 (acct a).size = a := by
  rw [acct_size]
  unfold acct
  exact ByteArray.extract_append_eq_right pfx_size.symm (by rw [pfx_size])
theorem acct_inj {a b : ByteArray} (h : acct a = acct b) : a = b := by
  rw [← acct_tail a, ← acct_tail b, h]

theorem toList_inj {a b : ByteArray} (h : a.toList = b.toList) : a = b := by
  rw [Go.ByteArray.toList_eq, Go.ByteArray.toList_eq] at h
  cases a; cases b
  simp only at h
  rw [Array.toList_inj.1 h]

theorem back_of {s : ByteArray} (h9 : 9 ≤ s.size) (h : ((s.extract 0 9).toList == [101, 120, 112, 101, 110, 115, 101, 115, 58]) = true) : acct (s.extract 9 s.size) = s := by
  have e : s.extract 0 9 = pfx := toList_inj (by rw [beq_iff_eq.1 h, Go.ByteArray.toList_eq]; rfl)
  unfold acct
  rw [← e, ByteArray.extract_append_extract, show min 0 9 = 0 from rfl, show max 9 s.size = s.size by omega]
  exact ByteArray.extract_zero_size

set_option maxHeartbeats 400000 in
theorem fee_any (a : ByteArray) (h : a.size ≤ 1048576) (w : World) : Calls Try.prog 7 #[.string a] w fun e w' => e = .returned (.string (acct a)) ∧ w' = w := by
  go_enter Try.func7, Try.ntmps7
  go_wp2
  go_ret
  exact ⟨rfl, rfl⟩
set_option maxHeartbeats 400000 in
theorem zzfee_any (a : ByteArray) (h : a.size ≤ 1048576) (w : World) : Calls Try.prog 5 #[.string a] w fun e w' => e = .returned (.string (acct a)) ∧ w' = w := by
  go_enter Try.func5, Try.ntmps5
  go_wp2_with (go_at_call 7; refine (fee_any a h _).mono ?_; rintro e w' ⟨rfl, rfl⟩)
  go_ret
  exact ⟨rfl, rfl⟩

set_option maxHeartbeats 400000 in
theorem strip_short (s : ByteArray) (h9 : (s.size : Int) < 9) (w : World) : Calls Try.prog 6 #[.string s] w fun e w' => e = .returned (.tuple #[.string ⟨#[]⟩, .bool false]) ∧ w' = w := by
  go_enter Try.func6, Try.ntmps6
  go_wp2
  go_ret2
  exact ⟨rfl, rfl⟩
set_option maxHeartbeats 400000 in
theorem strip_other (s : ByteArray) (h9 : 9 ≤ (s.size : Int)) (h : ((s.extract 0 9).toList == [101, 120, 112, 101, 110, 115, 101, 115, 58]) = false) (w : World) : Calls Try.prog 6 #[.string s] w fun e w' => e = .returned (.tuple #[.string ⟨#[]⟩, .bool false]) ∧ w' = w := by
  go_enter Try.func6, Try.ntmps6
  go_wp2
  go_ret2
  exact ⟨rfl, rfl⟩
set_option maxHeartbeats 400000 in
theorem strip_yes (s : ByteArray) (h9 : 9 ≤ (s.size : Int)) (h : ((s.extract 0 9).toList == [101, 120, 112, 101, 110, 115, 101, 115, 58]) = true) (w : World) : Calls Try.prog 6 #[.string s] w fun e w' => e = .returned (.tuple #[.string (s.extract 9 s.size), .bool true]) ∧ w' = w := by
  go_enter Try.func6, Try.ntmps6
  go_wp2
  go_ret2
  exact ⟨rfl, rfl⟩
theorem strip_acct (a : ByteArray) (w : World) : Calls Try.prog 6 #[.string (acct a)] w fun e w' => e = .returned (.tuple #[.string a, .bool true]) ∧ w' = w :=
  (strip_yes (acct a) (by rw [acct_size]; omega) (by rw [acct_head, Go.ByteArray.toList_eq]; rfl) w).mono fun e w' ⟨h1, h2⟩ => ⟨by rw [h1, acct_tail], h2⟩

set_option maxHeartbeats 400000 in
theorem small_yes (a b s : ByteArray) (h : a.size + b.size + s.size ≤ 1048576) (w : World) : Calls Try.prog 4 #[.string a, .string b, .string s] w fun e w' => e = .returned (.bool true) ∧ w' = w := by
  go_enter Try.func4, Try.ntmps4
  go_wp2
  go_ret
  exact ⟨rfl, rfl⟩
set_option maxHeartbeats 400000 in
theorem small_no (a b s : ByteArray) (ha : a.size ≤ maxLen) (hb : b.size ≤ maxLen) (hs : s.size ≤ maxLen) (h : ¬ a.size + b.size + s.size ≤ 1048576) (w : World) : Calls Try.prog 4 #[.string a, .string b, .string s] w fun e w' => e = .returned (.bool false) ∧ w' = w := by
  unfold maxLen at ha hb hs
  go_enter Try.func4, Try.ntmps4
  go_wp2
  all_goals go_ret
  all_goals exact ⟨rfl, rfl⟩

set_option maxHeartbeats 400000 in
theorem law_big (a b s : ByteArray) (ha : a.size ≤ maxLen) (hb : b.size ≤ maxLen) (hs : s.size ≤ maxLen) (h : ¬ a.size + b.size + s.size ≤ 1048576) (w : World) : Calls Try.prog 3 #[.string a, .string b, .string s] w fun e w' => e = .returned (.bool true) ∧ w' = w := by
  go_enter Try.func3, Try.ntmps3
  go_wp2_with fail
  refine (small_no a b s ha hb hs h w).mono ?_
  rintro e w' ⟨rfl, rfl⟩
  go_wp2
  go_ret
  exact ⟨rfl, rfl⟩
set_option maxHeartbeats 400000 in
theorem law_mid (a b s : ByteArray) (ht : a.size + b.size + s.size ≤ 1048576) (h : ¬ (a.size ≤ 262144 ∧ b.size ≤ 262144 ∧ s.size ≤ 262144)) (w : World) : Calls Try.prog 3 #[.string a, .string b, .string s] w fun e w' => e = .returned (.bool true) ∧ w' = w := by
  by_cases h1 : a.size ≤ 262144
  · by_cases h2 : b.size ≤ 262144
    · have h3 : ¬ s.size ≤ 262144 := fun h3 => h ⟨h1, h2, h3⟩
      clear h
      go_enter Try.func3, Try.ntmps3
      go_wp2_with fail
      refine (small_yes a b s ht w).mono ?_
      rintro e w' ⟨rfl, rfl⟩
      go_wp2
      go_ret
      exact ⟨rfl, rfl⟩
    · clear h
      go_enter Try.func3, Try.ntmps3
      go_wp2_with fail
      refine (small_yes a b s ht w).mono ?_
      rintro e w' ⟨rfl, rfl⟩
      go_wp2
      go_ret
      exact ⟨rfl, rfl⟩
  · clear h
    go_enter Try.func3, Try.ntmps3
    go_wp2_with fail
    refine (small_yes a b s ht w).mono ?_
    rintro e w' ⟨rfl, rfl⟩
    go_wp2
    go_ret
    exact ⟨rfl, rfl⟩

/-- Two payables: the accounts are equal just where they are. -/
theorem eq_cases (a b : ByteArray) : ∃ x : Bool, (a.toList == b.toList) = x ∧ ((acct a).toList == (acct b).toList) = x := by
  by_cases h : a = b
  · subst h; exact ⟨true, by simp, by simp⟩
  · exact ⟨false, by rw [beq_eq_false_iff_ne]; exact fun e => h (toList_inj e), by rw [beq_eq_false_iff_ne]; exact fun e => h (acct_inj (toList_inj e))⟩

set_option maxHeartbeats 800000 in
theorem law_small (a b s : ByteArray) (h1 : a.size ≤ 262144) (h2 : b.size ≤ 262144) (h3 : s.size ≤ 262144) (w : World) : Calls Try.prog 3 #[.string a, .string b, .string s] w fun e w' => e = .returned (.bool true) ∧ w' = w := by
  have ht : a.size + b.size + s.size ≤ 1048576 := by omega
  obtain ⟨x, e1, e2⟩ := eq_cases a b
  by_cases h9 : (s.size : Int) < 9
  · go_enter Try.func3, Try.ntmps3
    go_wp2_with fail
    refine (small_yes a b s ht w).mono ?_
    rintro e w' ⟨rfl, rfl⟩
    go_wp2_with fail
    refine (zzfee_any a (by omega) _).mono ?_
    rintro e w' ⟨rfl, rfl⟩
    go_wp2_with fail
    refine (zzfee_any b (by omega) _).mono ?_
    rintro e w' ⟨rfl, rfl⟩
    go_wp2_with fail
    refine (strip_acct a _).mono ?_
    rintro e w' ⟨rfl, rfl⟩
    go_wp2_with fail
    refine (strip_short s h9 _).mono ?_
    rintro e w' ⟨rfl, rfl⟩
    go_wp2
    go_ret
    exact ⟨rfl, rfl⟩
  · have h9' : 9 ≤ (s.size : Int) := by omega
    cases hp : ((s.extract 0 9).toList == [101, 120, 112, 101, 110, 115, 101, 115, 58])
    · go_enter Try.func3, Try.ntmps3
      go_wp2_with fail
      refine (small_yes a b s ht w).mono ?_
      rintro e w' ⟨rfl, rfl⟩
      go_wp2_with fail
      refine (zzfee_any a (by omega) _).mono ?_
      rintro e w' ⟨rfl, rfl⟩
      go_wp2_with fail
      refine (zzfee_any b (by omega) _).mono ?_
      rintro e w' ⟨rfl, rfl⟩
      go_wp2_with fail
      refine (strip_acct a _).mono ?_
      rintro e w' ⟨rfl, rfl⟩
      go_wp2_with fail
      refine (strip_other s h9' hp _).mono ?_
      rintro e w' ⟨rfl, rfl⟩
      go_wp2
      go_ret
      exact ⟨rfl, rfl⟩
    · have hb := back_of (s := s) (by omega) hp
      have HB : Hid (acct (s.extract 9 s.size) = s) := hb
      have hz : (s.extract 9 s.size).size ≤ 1048576 := by rw [ByteArray.size_extract]; omega
      clear hb
      go_enter Try.func3, Try.ntmps3
      go_wp2_with fail
      refine (small_yes a b s ht w).mono ?_
      rintro e w' ⟨rfl, rfl⟩
      go_wp2_with fail
      refine (zzfee_any a (by omega) _).mono ?_
      rintro e w' ⟨rfl, rfl⟩
      go_wp2_with fail
      refine (zzfee_any b (by omega) _).mono ?_
      rintro e w' ⟨rfl, rfl⟩
      go_wp2_with fail
      refine (strip_acct a _).mono ?_
      rintro e w' ⟨rfl, rfl⟩
      go_wp2_with fail
      refine (strip_yes s h9' hp _).mono ?_
      rintro e w' ⟨rfl, rfl⟩
      go_wp2_with fail
      refine (zzfee_any (s.extract 9 s.size) hz _).mono ?_
      rintro e w' ⟨rfl, rfl⟩
      rw [HB.out]
      go_wp2
      go_ret
      exact ⟨rfl, rfl⟩

theorem law_any (a b s : ByteArray) (ha : a.size ≤ maxLen) (hb : b.size ≤ maxLen) (hs : s.size ≤ maxLen) (w : World) : Calls Try.prog 3 #[.string a, .string b, .string s] w fun e w' => e = .returned (.bool true) ∧ w' = w := by
  by_cases ht : a.size + b.size + s.size ≤ 1048576
  · by_cases h : a.size ≤ 262144 ∧ b.size ≤ 262144 ∧ s.size ≤ 262144
    · exact law_small a b s h.1 h.2.1 h.2.2 w
    · exact law_mid a b s ht h w
  · exact law_big a b s ha hb hs ht w
end Go.Proofs.Qxb6612613a
