/-
  FnAppendTextTwiceReadsBack: the walk.
-/
import Derived.Test.Qxb6612641aParts
namespace Go.Proofs.Qxb6612641a
open Go Go.RowKit

set_option maxHeartbeats 400000 in
theorem small4_yes (a : Option Addr) (n0 c0 : Nat) (s t : ByteArray) (h : n0 + s.size + t.size ≤ 1048576) (w : World) :
    Calls Try.prog 11 #[.slice a n0 c0, .string s, .string t] w fun e w' => e = .returned (.bool true) ∧ w' = w := by
  go_enter Try.func11, Try.ntmps11
  go_wp2
  go_ret
  exact ⟨rfl, rfl⟩
set_option maxHeartbeats 400000 in
theorem small4_no (a : Option Addr) (n0 c0 : Nat) (s t : ByteArray) (h0 : n0 ≤ maxLen) (h1 : s.size ≤ maxLen) (h2 : t.size ≤ maxLen) (h : ¬ n0 + s.size + t.size ≤ 1048576) (w : World) :
    Calls Try.prog 11 #[.slice a n0 c0, .string s, .string t] w fun e w' => e = .returned (.bool false) ∧ w' = w := by
  unfold maxLen at h0 h1 h2
  go_enter Try.func11, Try.ntmps11
  go_wp2
  all_goals go_ret
  all_goals exact ⟨rfl, rfl⟩

set_option maxHeartbeats 400000 in
theorem law4_big (a : Option Addr) (n0 c0 : Nat) (s t : ByteArray) (h0 : n0 ≤ maxLen) (h1 : s.size ≤ maxLen) (h2 : t.size ≤ maxLen) (h : ¬ n0 + s.size + t.size ≤ 1048576) (w : World) :
    Calls Try.prog 4 #[.slice a n0 c0, .string s, .string t] w fun e w' => e = .returned (.bool true) ∧ w' = w := by
  go_enter Try.func4, Try.ntmps4
  go_wp2_with fail
  refine (small4_no a n0 c0 s t h0 h1 h2 h w).mono ?_
  rintro e w' ⟨rfl, rfl⟩
  go_wp2
  go_ret
  exact ⟨rfl, rfl⟩

set_option maxHeartbeats 400000 in
theorem law4_mid (a : Option Addr) (n0 c0 : Nat) (s t : ByteArray) (ht : n0 + s.size + t.size ≤ 1048576) (h : ¬ n0 ≤ 262144 ∨ (n0 ≤ 262144 ∧ ¬ s.size ≤ 262144) ∨ (n0 ≤ 262144 ∧ s.size ≤ 262144 ∧ ¬ t.size ≤ 262144)) (w : World) :
    Calls Try.prog 4 #[.slice a n0 c0, .string s, .string t] w fun e w' => e = .returned (.bool true) ∧ w' = w := by
  rcases h with h | ⟨h, h'⟩ | ⟨h, h', h''⟩
  all_goals
    go_enter Try.func4, Try.ntmps4
    go_wp2_with fail
    refine (small4_yes a n0 c0 s t ht w).mono ?_
    rintro e w' ⟨rfl, rfl⟩
    go_wp2
    go_ret
    exact ⟨rfl, rfl⟩

/-- What AppendText hands back, the value opened. -/
theorem text_lies (s : ByteArray) (hs : s.size ≤ 1048576) (B n q : Nat) (hq : (hd 96 s.size).length = q) (sv : Value) (xs : List Value) (w : World) (hown : w.ownsRow B 5 1 sv n xs) (hBw : B ≤ w.heap.size) (hlim : n ≤ 10000000) :
    Calls Try.prog 12 #[sv, .string s] w fun e w' => ∃ g cap, e = .returned (.slice (some ⟨g, 0, none⟩) (n + q + s.size) cap) ∧ w'.ownsRow B 5 1 (.slice (some ⟨g, 0, none⟩) (n + q + s.size) cap) (n + q + s.size) (xs ++ cs (hd 96 s.size) ++ cs (ints s)) ∧ w.grownBy w' sv.ownBlock := by
  refine (text_any s hs B n sv xs w hown hBw hlim).mono ?_
  rintro e w' ⟨v', rfl, ho, hg⟩
  subst hq
  have := (hd_length 96 s.size).1
  obtain ⟨g, cap, rfl, _, _⟩ := ho.form (by omega)
  exact ⟨g, cap, rfl, ho, hg⟩

theorem owns_all4 {W : World} {B g N cap : Nat} {l0 l1 l2 h1 h2 : List Int} (h : W.ownsRow B 5 1 (.slice (some ⟨g, 0, none⟩) N cap) N (cs l0 ++ cs h1 ++ cs l1 ++ cs h2 ++ cs l2)) :
    W.ownsRow B 5 1 (.slice (some ⟨g, 0, none⟩) N cap) N (cs (l0 ++ h1 ++ l1 ++ h2 ++ l2)) := by
  simpa only [cs_append, List.append_assoc] using h

set_option maxHeartbeats 1000000 in
theorem law4_small (l0 : List Int) (a : Option Addr) (n0 c0 : Nat) (s t : ByteArray) (e0 : Hid (l0.length = n0)) (h0 : n0 ≤ 262144) (h1 : s.size ≤ 262144) (h2 : t.size ≤ 262144) (w : World)
    (na : Hid (a = none → l0 = [] ∧ c0 = 0)) (ra : Hid (Bytes w a l0)) :
    Calls Try.prog 4 #[.slice a n0 c0, .string s, .string t] w fun e w' => e = .returned (.bool true) ∧ Below w.heap.size w w' := by
  obtain ⟨q1, hq1⟩ : ∃ q, Hid ((hd 96 s.size).length = q) := ⟨_, rfl⟩
  obtain ⟨q2, hq2⟩ : ∃ q, Hid ((hd 96 t.size).length = q) := ⟨_, rfl⟩
  have q1b : q1 ≤ 5 := by rw [← hq1.out]; exact (hd_length 96 s.size).2
  have q2b : q2 ≤ 5 := by rw [← hq2.out]; exact (hd_length 96 t.size).2
  go_enter Try.func4, Try.ntmps4
  go_wp2_with fail
  refine (small4_yes a n0 c0 s t (by omega) w).mono ?_
  rintro e w' ⟨rfl, rfl⟩
  go_wp2_with fail
  have k0 := clone_own l0 a c0 (by rw [e0.out]; exact h0) w' na.out ra.out
  rw [e0.out] at k0
  refine k0.mono ?_
  clear k0
  rintro e w1 ⟨v1, rfl, o1, g1, _⟩
  have O1 : Hid (w1.ownsRow w'.heap.size 5 1 v1 n0 (cs l0)) := o1
  have b1 : Hid (Below w'.heap.size w' w1) := below_grown g1 (Nat.le_refl _) (fun _ h => by cases h)
  have s1 := g1.size
  clear o1 g1
  go_wp2_with fail
  refine (text_lies s (by omega) w'.heap.size n0 q1 hq1.out v1 (cs l0) w1 O1.out s1 (by omega)).mono ?_
  rintro e w2 ⟨g2, cap2, rfl, o2, gr2⟩
  have O2 : Hid (w2.ownsRow w'.heap.size 5 1 (.slice (some ⟨g2, 0, none⟩) (n0 + q1 + s.size) cap2) (n0 + q1 + s.size) (cs l0 ++ cs (hd 96 s.size) ++ cs (ints s))) := o2
  have b2 : Hid (Below w'.heap.size w' w2) := b1.out.trans (below_grown gr2 s1 (fun k hk => (O1.out.lt k hk).1))
  have s2 : w'.heap.size ≤ w2.heap.size := b2.out.size
  clear o2 gr2 b1 s1 O1
  go_wp2_with fail
  refine (text_lies t (by omega) w'.heap.size (n0 + q1 + s.size) q2 hq2.out _ _ w2 O2.out s2 (by omega)).mono ?_
  rintro e w5 ⟨g5, cap5, rfl, o5, gr5⟩
  have O5 : Hid (w5.ownsRow w'.heap.size 5 1 (.slice (some ⟨g5, 0, none⟩) (n0 + q1 + s.size + q2 + t.size) cap5) (n0 + q1 + s.size + q2 + t.size) (cs (l0 ++ hd 96 s.size ++ ints s ++ hd 96 t.size ++ ints t))) := owns_all4 o5
  have b5 : Hid (Below w'.heap.size w' w5) := b2.out.trans (below_grown gr5 s2 (fun k hk => (O2.out.lt k hk).1))
  have hcap : n0 + q1 + s.size + q2 + t.size ≤ cap5 := cap_of O5.out
  clear o5 gr5 b2 s2 O2
  have hsl0 := run_cut_h g5 (n0 + q1 + s.size + q2 + t.size) cap5 n0 (n0 : Int) rfl (by omega)
  go_wp2_with fail
  have k5 := same_any l0 (cut g5 cap5 0) a cap5 c0 (by rw [e0.out]; unfold maxLen; omega) w5 (bytes_cut (piece_at O5.out [] l0 (hd 96 s.size ++ ints s ++ hd 96 t.size ++ ints t) 0 (by simp) rfl) (by rw [e0.out]; omega)) (ra.out.below b5.out)
  rw [e0.out] at k5
  refine k5.mono ?_
  clear k5 hsl0
  rintro e w6 ⟨rfl, d1, rfl⟩
  go_wp2_with fail
  have k6 := read_any 96 3 (.inr ⟨rfl, rfl⟩) g5 (n0 + q1 + s.size + q2 + t.size) cap5 n0 s.size h1 (by omega) (by rw [hq1.out]; omega) (w5.drewN d1) (piece_at O5.out l0 (hd 96 s.size) (ints s ++ hd 96 t.size ++ ints t) n0 (by simp) e0.out) (n0 : Int) rfl
  rw [hq1.out] at k6
  refine k6.mono ?_
  clear k6
  rintro e w6 ⟨rfl, rfl⟩
  have hsl1 := run_cut g5 (n0 + q1 + s.size + q2 + t.size) cap5 (n0 + q1) (n0 + q1 + s.size) ((n0 : Int) + (q1 : Int)) ((n0 : Int) + (q1 : Int) + (s.size : Int)) (by omega) (by omega) (by omega) (by omega)
  rw [show n0 + q1 + s.size - (n0 + q1) = s.size by omega] at hsl1
  go_wp2_with fail
  have k7 := sameText_any s (cut g5 cap5 (n0 + q1)) (cap5 - (n0 + q1)) (by unfold maxLen; omega) (w5.drewN d1) (bytes_cut (piece_at O5.out (l0 ++ hd 96 s.size) (ints s) (hd 96 t.size ++ ints t) (n0 + q1) (by simp) (by rw [List.length_append, e0.out, hq1.out])) (by rw [ints_length]; omega))
  refine k7.mono ?_
  clear k7 hsl1
  rintro e w6 ⟨rfl, d2, rfl⟩
  go_wp2_with fail
  have k8 := read_any 96 3 (.inr ⟨rfl, rfl⟩) g5 (n0 + q1 + s.size + q2 + t.size) cap5 (n0 + q1 + s.size) t.size h2 (by omega) (by rw [hq2.out]; omega) (w5.drewN (d1 + d2)) (piece_at O5.out (l0 ++ hd 96 s.size ++ ints s) (hd 96 t.size) (ints t) (n0 + q1 + s.size) (by simp) (by rw [List.length_append, List.length_append, e0.out, hq1.out, ints_length])) ((n0 : Int) + (q1 : Int) + (s.size : Int)) (by omega)
  rw [hq2.out] at k8
  refine k8.mono ?_
  clear k8
  rintro e w6 ⟨rfl, rfl⟩
  have hsl2 := run_cut g5 (n0 + q1 + s.size + q2 + t.size) cap5 (n0 + q1 + s.size + q2) (n0 + q1 + s.size + q2 + t.size) ((n0 : Int) + (q1 : Int) + (s.size : Int) + (q2 : Int)) ((n0 : Int) + (q1 : Int) + (s.size : Int) + (q2 : Int) + (t.size : Int)) (by omega) (by omega) (by omega) (by omega)
  rw [show n0 + q1 + s.size + q2 + t.size - (n0 + q1 + s.size + q2) = t.size by omega] at hsl2
  go_wp2_with fail
  have k9 := sameText_any t (cut g5 cap5 (n0 + q1 + s.size + q2)) (cap5 - (n0 + q1 + s.size + q2)) (by unfold maxLen; omega) (w5.drewN (d1 + d2)) (bytes_cut (piece_at O5.out (l0 ++ hd 96 s.size ++ ints s ++ hd 96 t.size) (ints t) [] (n0 + q1 + s.size + q2) (by simp) (by rw [List.length_append, List.length_append, List.length_append, e0.out, hq1.out, ints_length, hq2.out])) (by rw [ints_length]; omega))
  refine k9.mono ?_
  clear k9 hsl2
  rintro e w6 ⟨rfl, d3, rfl⟩
  go_wp2
  go_ret
  exact ⟨rfl, b5.out.trans ⟨rfl, rfl, rfl, Nat.le_refl _, fun _ _ => rfl⟩⟩

/-- The law, whatever the arguments. -/
theorem law4_any (l0 : List Int) (a : Option Addr) (n0 c0 : Nat) (s t : ByteArray) (e0 : l0.length = n0) (h0 : n0 ≤ maxLen) (h1 : s.size ≤ maxLen) (h2 : t.size ≤ maxLen) (w : World) (na : a = none → l0 = [] ∧ c0 = 0) (ra : Bytes w a l0) :
    Calls Try.prog 4 #[.slice a n0 c0, .string s, .string t] w fun e w' => e = .returned (.bool true) ∧ Below w.heap.size w w' := by
  have fin : ∀ (e : Ending) (w' : World), e = .returned (.bool true) ∧ w' = w → e = .returned (.bool true) ∧ Below w.heap.size w w' := fun e w' ⟨h, hw⟩ => ⟨h, by subst hw; exact Below.refl _ _⟩
  by_cases ht : n0 + s.size + t.size ≤ 1048576
  · by_cases g0 : n0 ≤ 262144
    · by_cases g1 : s.size ≤ 262144
      · by_cases g2 : t.size ≤ 262144
        · exact law4_small l0 a n0 c0 s t e0 g0 g1 g2 w na ra
        · exact (law4_mid a n0 c0 s t ht (.inr (.inr ⟨g0, g1, g2⟩)) w).mono fin
      · exact (law4_mid a n0 c0 s t ht (.inr (.inl ⟨g0, g1⟩)) w).mono fin
    · exact (law4_mid a n0 c0 s t ht (.inl g0) w).mono fin
  · exact (law4_big a n0 c0 s t h0 h1 h2 ht w).mono fin
end Go.Proofs.Qxb6612641a
