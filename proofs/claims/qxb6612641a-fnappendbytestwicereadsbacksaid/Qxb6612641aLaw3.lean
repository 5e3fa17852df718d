/-
  FnAppendBytesTwiceReadsBack: the walk.
-/
import Derived.Test.Qxb6612641aParts
namespace Go.Proofs.Qxb6612641a
open Go Go.RowKit

set_option maxHeartbeats 400000 in
theorem law3_big (a b c : Option Addr) (n0 n1 n2 c0 c1 c2 : Nat) (h0 : n0 ≤ maxLen) (h1 : n1 ≤ maxLen) (h2 : n2 ≤ maxLen) (h : ¬ n0 + n1 + n2 ≤ 1048576) (w : World) :
    Calls Try.prog 3 #[.slice a n0 c0, .slice b n1 c1, .slice c n2 c2] w fun e w' => e = .returned (.bool true) ∧ w' = w := by
  go_enter Try.func3, Try.ntmps3
  go_wp2_with fail
  refine (small_no a b c n0 n1 n2 c0 c1 c2 h0 h1 h2 h w).mono ?_
  rintro e w' ⟨rfl, rfl⟩
  go_wp2
  go_ret
  exact ⟨rfl, rfl⟩

set_option maxHeartbeats 400000 in
theorem law3_mid (a b c : Option Addr) (n0 n1 n2 c0 c1 c2 : Nat) (ht : n0 + n1 + n2 ≤ 1048576) (h : ¬ n0 ≤ 262144 ∨ (n0 ≤ 262144 ∧ ¬ n1 ≤ 262144) ∨ (n0 ≤ 262144 ∧ n1 ≤ 262144 ∧ ¬ n2 ≤ 262144)) (w : World) :
    Calls Try.prog 3 #[.slice a n0 c0, .slice b n1 c1, .slice c n2 c2] w fun e w' => e = .returned (.bool true) ∧ w' = w := by
  rcases h with h | ⟨h, h'⟩ | ⟨h, h', h''⟩
  all_goals
    go_enter Try.func3, Try.ntmps3
    go_wp2_with fail
    refine (small_yes a b c n0 n1 n2 c0 c1 c2 ht w).mono ?_
    rintro e w' ⟨rfl, rfl⟩
    go_wp2
    go_ret
    exact ⟨rfl, rfl⟩

set_option maxHeartbeats 1000000 in
theorem law3_small (l0 l1 l2 : List Int) (a b c : Option Addr) (n0 n1 n2 c0 c1 c2 : Nat) (e0 : Hid (l0.length = n0)) (e1 : Hid (l1.length = n1)) (e2 : Hid (l2.length = n2)) (h0 : n0 ≤ 262144) (h1 : n1 ≤ 262144) (h2 : n2 ≤ 262144) (w : World)
    (na : Hid (a = none → l0 = [] ∧ c0 = 0)) (nb : Hid (b = none → l1 = [] ∧ c1 = 0)) (nc : Hid (c = none → l2 = [] ∧ c2 = 0)) (ra : Hid (Bytes w a l0)) (rb : Hid (Bytes w b l1)) (rc : Hid (Bytes w c l2)) :
    Calls Try.prog 3 #[.slice a n0 c0, .slice b n1 c1, .slice c n2 c2] w fun e w' => e = .returned (.bool true) ∧ Below w.heap.size w w' := by
  go_enter Try.func3, Try.ntmps3
  go_wp2_with fail
  refine (small_yes a b c n0 n1 n2 c0 c1 c2 (by omega) w).mono ?_
  rintro e w' ⟨rfl, rfl⟩
  go_wp2_with fail
  have k0 := clone_own l0 a c0 (by rw [e0.out]; exact h0) w' na.out ra.out
  rw [e0.out] at k0
  refine k0.mono ?_
  clear k0
  rintro e w1 ⟨v1, rfl, o1, g1, _⟩
  have rb1 : Hid (Bytes w1 b l1) := rb.out.below (below_grown g1 (Nat.le_refl _) (fun _ h => by cases h))
  go_wp2_with fail
  have k1 := clone_own l1 b c1 (by rw [e1.out]; exact h1) w1 nb.out rb1.out
  rw [e1.out] at k1
  refine k1.mono ?_
  clear k1
  rintro e w2 ⟨v2, rfl, o2, g2, _⟩
  have b2 : Hid (Below w'.heap.size w' w2) := (below_grown g1 (Nat.le_refl _) (fun _ h => by cases h)).trans (below_grown g2 g1.size (fun _ h => by cases h))
  have rc2 : Hid (Bytes w2 c l2) := rc.out.below b2.out
  go_wp2_with fail
  have k2 := clone_own l2 c c2 (by rw [e2.out]; exact h2) w2 nc.out rc2.out
  rw [e2.out] at k2
  refine k2.mono ?_
  clear k2
  rintro e w3 ⟨v3, rfl, o3, g3, _⟩
  have b3 : Hid (Below w'.heap.size w' w3) := b2.out.trans (below_grown g3 (Nat.le_trans g1.size g2.size) (fun _ h => by cases h))
  have o13 := kept_none (kept_none o1 g2) g3
  have o23 := kept_none o2 g3
  have ap21 := apart o1 o2
  have ap31 := apart (kept_none o1 g2) o3
  have s3 : w'.heap.size ≤ w3.heap.size := b3.out.size
  have lt3 : Hid (∀ k, v3.ownBlock = some k → k < w3.heap.size) := fun k hk => (o3.lt k hk).2
  have O3 : Hid (w3.ownsRow w2.heap.size 5 1 v3 n2 (cs l2)) := o3
  have O13 : Hid (w3.ownsRow w'.heap.size 5 1 v1 n0 (cs l0)) := o13
  have O23 : Hid (w3.ownsRow w1.heap.size 5 1 v2 n1 (cs l1)) := o23
  have A21 : Hid (v2.ownBlock = none ∨ v2.ownBlock ≠ v1.ownBlock) := ap21
  have A31 : Hid (v3.ownBlock = none ∨ v3.ownBlock ≠ v1.ownBlock) := ap31
  clear o1 o2 o3 o13 o23 ap21 ap31 g1 g2 g3 b2 rb1 rc2
  obtain ⟨q1, hq1⟩ : ∃ q, Hid ((hd 64 n1).length = q) := ⟨_, rfl⟩
  obtain ⟨q2, hq2⟩ : ∃ q, Hid ((hd 64 n2).length = q) := ⟨_, rfl⟩
  have q1b : q1 ≤ 5 := by rw [← hq1.out]; exact (hd_length 64 n1).2
  have q2b : q2 ≤ 5 := by rw [← hq2.out]; exact (hd_length 64 n2).2
  go_wp2_with fail
  have k3 := bytes_any l1 v2 w1.heap.size w'.heap.size n0 (by rw [e1.out]; exact h1) v1 (cs l0) w3 O13.out s3 (by omega) (by rw [e1.out]; exact O23.out) A21.out
  rw [e1.out, hq1.out] at k3
  refine k3.mono ?_
  clear k3
  rintro e w4 ⟨g4, cap4, rfl, o4, gr4, at4⟩
  have O4 : Hid (w4.ownsRow w'.heap.size 5 1 (.slice (some ⟨g4, 0, none⟩) (n0 + (q1 + n1)) cap4) (n0 + (q1 + n1)) (cs l0 ++ (cs (hd 64 n1) ++ cs l1))) := o4
  have b4 : Hid (Below w'.heap.size w' w4) := b3.out.trans (below_grown gr4 s3 (fun k hk => (O13.out.lt k hk).1))
  have O34 : Hid (w4.ownsRow w2.heap.size 5 1 v3 n2 (cs l2)) := O3.out.kept gr4 A31.out
  have A34 : Hid (v3.ownBlock = none ∨ v3.ownBlock ≠ some g4) := by
    rcases A31.out with h | h
    · exact .inl h
    · rcases at4 with h4 | h4
      · exact .inr (by rw [← h4]; exact h)
      · cases h3 : v3.ownBlock with
        | none => exact .inl rfl
        | some k =>
          right
          intro e
          have := lt3.out k h3
          have := Option.some.inj e
          omega
  have s4 : w'.heap.size ≤ w4.heap.size := b4.out.size
  clear o4 gr4 at4 O3 O13 O23 A21 A31 lt3 b3
  go_wp2_with fail
  have k4 := bytes_any l2 v3 w2.heap.size w'.heap.size (n0 + (q1 + n1)) (by rw [e2.out]; exact h2) (.slice (some ⟨g4, 0, none⟩) (n0 + (q1 + n1)) cap4) _ w4 O4.out s4 (by omega) (by rw [e2.out]; exact O34.out) A34.out
  rw [e2.out, hq2.out] at k4
  refine k4.mono ?_
  clear k4
  rintro e w5 ⟨g5, cap5, rfl, o5, gr5, at5⟩
  have O5 : Hid (w5.ownsRow w'.heap.size 5 1 (.slice (some ⟨g5, 0, none⟩) (n0 + (q1 + n1) + (q2 + n2)) cap5) (n0 + (q1 + n1) + (q2 + n2)) (cs (l0 ++ hd 64 n1 ++ l1 ++ hd 64 n2 ++ l2))) := owns_all o5
  have b5 : Hid (Below w'.heap.size w' w5) := b4.out.trans (below_grown gr5 s4 (fun k hk => (O4.out.lt k hk).1))
  have hcap : n0 + (q1 + n1) + (q2 + n2) ≤ cap5 := cap_of O5.out
  clear o5 gr5 at5 O4 O34 A34 b4 s3 s4
  have hsl0 := run_cut_h g5 (n0 + (q1 + n1) + (q2 + n2)) cap5 n0 (n0 : Int) rfl (by omega)
  go_wp2_with fail
  have k5 := same_any l0 (cut g5 cap5 0) a cap5 c0 (by rw [e0.out]; unfold maxLen; omega) w5 (bytes_cut (piece_at O5.out [] l0 (hd 64 n1 ++ l1 ++ hd 64 n2 ++ l2) 0 (by simp) rfl) (by rw [e0.out]; omega)) (ra.out.below b5.out)
  rw [e0.out] at k5
  refine k5.mono ?_
  clear k5 hsl0
  rintro e w6 ⟨rfl, d1, rfl⟩
  go_wp2_with fail
  have k6 := read_any 64 2 (.inl ⟨rfl, rfl⟩) g5 (n0 + (q1 + n1) + (q2 + n2)) cap5 n0 n1 h1 (by omega) (by rw [hq1.out]; omega) (w5.drewN d1) (piece_at O5.out l0 (hd 64 n1) (l1 ++ hd 64 n2 ++ l2) n0 (by simp) e0.out) (n0 : Int) rfl
  rw [hq1.out] at k6
  refine k6.mono ?_
  clear k6
  rintro e w6 ⟨rfl, rfl⟩
  have hsl1 := run_cut g5 (n0 + (q1 + n1) + (q2 + n2)) cap5 (n0 + q1) (n0 + q1 + n1) ((n0 : Int) + (q1 : Int)) ((n0 : Int) + (q1 : Int) + (n1 : Int)) (by omega) (by omega) (by omega) (by omega)
  rw [show n0 + q1 + n1 - (n0 + q1) = n1 by omega] at hsl1
  go_wp2_with fail
  have k7 := same_any l1 (cut g5 cap5 (n0 + q1)) b (cap5 - (n0 + q1)) c1 (by rw [e1.out]; unfold maxLen; omega) (w5.drewN d1) (bytes_cut (piece_at O5.out (l0 ++ hd 64 n1) l1 (hd 64 n2 ++ l2) (n0 + q1) (by simp) (by rw [List.length_append, e0.out, hq1.out])) (by rw [e1.out]; omega)) ((rb.out.below b5.out).drew d1)
  rw [e1.out] at k7
  refine k7.mono ?_
  clear k7 hsl1
  rintro e w6 ⟨rfl, d2, rfl⟩
  go_wp2_with fail
  have k8 := read_any 64 2 (.inl ⟨rfl, rfl⟩) g5 (n0 + (q1 + n1) + (q2 + n2)) cap5 (n0 + q1 + n1) n2 h2 (by omega) (by rw [hq2.out]; omega) (w5.drewN (d1 + d2)) (piece_at O5.out (l0 ++ hd 64 n1 ++ l1) (hd 64 n2) l2 (n0 + q1 + n1) (by simp) (by rw [List.length_append, List.length_append, e0.out, hq1.out, e1.out])) ((n0 : Int) + (q1 : Int) + (n1 : Int)) (by omega)
  rw [hq2.out] at k8
  refine k8.mono ?_
  clear k8
  rintro e w6 ⟨rfl, rfl⟩
  have hsl2 := run_cut g5 (n0 + (q1 + n1) + (q2 + n2)) cap5 (n0 + q1 + n1 + q2) (n0 + q1 + n1 + q2 + n2) ((n0 : Int) + (q1 : Int) + (n1 : Int) + (q2 : Int)) ((n0 : Int) + (q1 : Int) + (n1 : Int) + (q2 : Int) + (n2 : Int)) (by omega) (by omega) (by omega) (by omega)
  rw [show n0 + q1 + n1 + q2 + n2 - (n0 + q1 + n1 + q2) = n2 by omega] at hsl2
  go_wp2_with fail
  have k9 := same_any l2 (cut g5 cap5 (n0 + q1 + n1 + q2)) c (cap5 - (n0 + q1 + n1 + q2)) c2 (by rw [e2.out]; unfold maxLen; omega) (w5.drewN (d1 + d2)) (bytes_cut (piece_at O5.out (l0 ++ hd 64 n1 ++ l1 ++ hd 64 n2) l2 [] (n0 + q1 + n1 + q2) (by simp) (by rw [List.length_append, List.length_append, List.length_append, e0.out, hq1.out, e1.out, hq2.out])) (by rw [e2.out]; omega)) ((rc.out.below b5.out).drew (d1 + d2))
  rw [e2.out] at k9
  refine k9.mono ?_
  clear k9 hsl2
  rintro e w6 ⟨rfl, d3, rfl⟩
  have hend : ((n0 : Int) + (q1 : Int) + (n1 : Int) + (q2 : Int) + (n2 : Int) == (n0 : Int) + ((q1 : Int) + (n1 : Int)) + ((q2 : Int) + (n2 : Int))) = true := by rw [beq_iff_eq]; omega
  go_wp2
  go_ret
  exact ⟨rfl, b5.out.trans ⟨rfl, rfl, rfl, Nat.le_refl _, fun _ _ => rfl⟩⟩

/-- The law, whatever the arguments. -/
theorem law3_any (l0 l1 l2 : List Int) (a b c : Option Addr) (n0 n1 n2 c0 c1 c2 : Nat) (e0 : l0.length = n0) (e1 : l1.length = n1) (e2 : l2.length = n2) (h0 : n0 ≤ maxLen) (h1 : n1 ≤ maxLen) (h2 : n2 ≤ maxLen) (w : World)
    (na : a = none → l0 = [] ∧ c0 = 0) (nb : b = none → l1 = [] ∧ c1 = 0) (nc : c = none → l2 = [] ∧ c2 = 0) (ra : Bytes w a l0) (rb : Bytes w b l1) (rc : Bytes w c l2) :
    Calls Try.prog 3 #[.slice a n0 c0, .slice b n1 c1, .slice c n2 c2] w fun e w' => e = .returned (.bool true) ∧ Below w.heap.size w w' := by
  have fin : ∀ (e : Ending) (w' : World), e = .returned (.bool true) ∧ w' = w → e = .returned (.bool true) ∧ Below w.heap.size w w' := fun e w' ⟨h, hw⟩ => ⟨h, by subst hw; exact Below.refl _ _⟩
  by_cases ht : n0 + n1 + n2 ≤ 1048576
  · by_cases g0 : n0 ≤ 262144
    · by_cases g1 : n1 ≤ 262144
      · by_cases g2 : n2 ≤ 262144
        · exact law3_small l0 l1 l2 a b c n0 n1 n2 c0 c1 c2 e0 e1 e2 g0 g1 g2 w na nb nc ra rb rc
        · exact (law3_mid a b c n0 n1 n2 c0 c1 c2 ht (.inr (.inr ⟨g0, g1, g2⟩)) w).mono fin
      · exact (law3_mid a b c n0 n1 n2 c0 c1 c2 ht (.inr (.inl ⟨g0, g1⟩)) w).mono fin
    · exact (law3_mid a b c n0 n1 n2 c0 c1 c2 ht (.inl g0) w).mono fin
  · exact (law3_big a b c n0 n1 n2 c0 c1 c2 h0 h1 h2 ht w).mono fin
end Go.Proofs.Qxb6612641a
