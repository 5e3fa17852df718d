/-
  appendHead's contract, its four ways.
-/
import Derived.Test.Qxb6612641aAppends
namespace Go.Proofs.Qxb6612641a
open Go Go.RowKit

theorem or64 : ∀ m : Fin 32, bits .or .u8 64 (m.val : Int) = 64 + (m.val : Int) := by decide +kernel
theorem or96 : ∀ m : Fin 32, bits .or .u8 96 (m.val : Int) = 96 + (m.val : Int) := by decide +kernel
theorem or_at (M : Int) (hM : M = 64 ∨ M = 96) (m : Int) (h0 : 0 ≤ m) (h1 : m < 32) : bits .or .u8 M m = M + m := by
  obtain ⟨k, rfl⟩ : ∃ k : Nat, m = k := ⟨m.toNat, by omega⟩
  rcases hM with rfl | rfl
  · exact or64 ⟨k, by omega⟩
  · exact or96 ⟨k, by omega⟩

theorem grown_alloc_drew (w : World) (o : Obj) (r : Option Nat) : w.grownBy (w.alloc o).drew r :=
  have h := World.grownBy_alloc w o r
  ⟨h.os, h.tape, h.output, h.size, h.block⟩
theorem at_le {r : Option Nat} {g N : Nat} (h : r = some g ∨ g = N + 1) : r = some g ∨ N ≤ g := by
  rcases h with h | h
  · exact .inl h
  · exact .inr (by omega)
/-- Two appends in a row, as one. -/
theorem appended_two {B : Nat} {w w2 w3 : World} {sv : Value} {n m1 m2 k : Nat} {xs a b c : List Value} {g g3 cap3 : Nat} (hgrow : w.grownBy w2 sv.ownBlock) (hat : sv.ownBlock = some g ∨ w.heap.size ≤ g)
    (hown3 : w3.ownsRow B 5 1 (.slice (some ⟨g3, 0, none⟩) (n + m1 + m2) cap3) (n + m1 + m2) (xs ++ a ++ b)) (hgrow3 : w2.grownBy w3 (some g)) (hat3 : some g = some g3 ∨ w2.heap.size ≤ g3) (hk : m1 + m2 = k) (hc : a ++ b = c) :
    Appended B w sv n xs k c (.returned (.slice (some ⟨g3, 0, none⟩) (n + m1 + m2) cap3)) w3 := by
  subst hk hc
  refine ⟨g3, cap3, by rw [Nat.add_assoc], by rw [← Nat.add_assoc, ← List.append_assoc]; exact hown3, grown_next hgrow hgrow3 ?_, ?_⟩
  · rcases hat with h | h
    · exact .inl h.symm
    · exact .inr ⟨g, rfl, h⟩
  · rcases hat3 with h3 | h3
    · cases h3; exact hat
    · exact .inr (Nat.le_trans hgrow.size h3)

set_option maxHeartbeats 400000 in
theorem head1 (M : Int) (hM : Hid (M = 64 ∨ M = 96)) (B n m : Nat) (hm : m < 24) (sv : Value) (xs : List Value) (w : World) (hown : w.ownsRow B 5 1 sv n xs) (hBw : B ≤ w.heap.size) (hlim : n + 2 ≤ 1000000000) :
    Calls Try.prog 15 #[sv, .int .u8 M, .int .u64 (m : Int)] w (Appended B w sv n xs 1 (cs [M + (m : Int)])) := by
  obtain ⟨i0, hi, hz0, hz1, hz2⟩ := info_parts Try.info5
  have ho := or_at M hM.out (m : Int) (by omega) (by omega)
  go_enter Try.func15, Try.ntmps15
  go_wp2_with (at_builtin; refine wpList_append_lies _ rfl _ _ 22 rfl B 5 i0 (.int .u8 0) 1 1 Try.underlying22 hi hz0 hz1 hz2 rfl (by decide) _ _ _ rfl (hown.alloc _) _ 1 1 (cs [M + (m : Int)]) rfl rfl ?c1 ?c2 (by decide) ?c3 ?c4 ?c5 _ rfl ?_)
  case c1 =>
    intro j u hj
    match j, hj with
    | 0, hj => simp [cs] at hj; subst hj; simp [Addr.add]
  case c2 => exact cs_one _
  case c3 => unfold maxLen; omega
  case c4 => omega
  case c5 => simp; omega
  intro g cap w2 hown' hgrow hat hlt
  go_wp2
  go_ret
  refine ⟨g, cap, rfl, hown', grown_trans (World.grownBy_alloc _ _ _) hgrow, ?_⟩
  rcases hat with h | h
  · exact .inl h
  · right; omega

set_option maxHeartbeats 400000 in
theorem head2 (M : Int) (hM : Hid (M = 64 ∨ M = 96)) (B n m : Nat) (hm0 : 24 ≤ m) (hm : m ≤ 255) (sv : Value) (xs : List Value) (w : World) (hown : w.ownsRow B 5 1 sv n xs) (hBw : B ≤ w.heap.size) (hlim : n + 2 ≤ 1000000000) :
    Calls Try.prog 15 #[sv, .int .u8 M, .int .u64 (m : Int)] w (Appended B w sv n xs 2 (cs [M + 24, (m : Int)])) := by
  obtain ⟨i0, hi, hz0, hz1, hz2⟩ := info_parts Try.info5
  have ho := or_at M hM.out 24 (by omega) (by omega)
  go_enter Try.func15, Try.ntmps15
  go_wp2_with (at_builtin; refine wpList_append_lies _ rfl _ _ 22 rfl B 5 i0 (.int .u8 0) 1 1 Try.underlying22 hi hz0 hz1 hz2 rfl (by decide) _ _ _ rfl (hown.alloc _) _ 2 2 (cs [M + 24, (m : Int)]) rfl rfl ?c1 ?c2 (by decide) ?c3 ?c4 ?c5 _ rfl ?_)
  case c1 =>
    intro j u hj
    match j, hj with
    | 0, hj => simp [cs] at hj; subst hj; simp [Addr.add]
    | 1, hj => simp [cs] at hj; subst hj; simp [Addr.add]
  case c2 => exact cs_one _
  case c3 => unfold maxLen; omega
  case c4 => omega
  case c5 => simp; omega
  intro g cap w2 hown' hgrow hat hlt
  go_wp2
  go_ret
  refine ⟨g, cap, rfl, hown', grown_trans (World.grownBy_alloc _ _ _) hgrow, ?_⟩
  rcases hat with h | h
  · exact .inl h
  · right; omega

set_option maxHeartbeats 400000 in
theorem head3 (M : Int) (hM : Hid (M = 64 ∨ M = 96)) (B n m : Nat) (hm0 : 255 < m) (hm : m ≤ 65535) (sv : Value) (xs : List Value) (w : World) (hown : w.ownsRow B 5 1 sv n xs) (hBw : B ≤ w.heap.size) (hlim : n + 4 ≤ 1000000000) :
    Calls Try.prog 15 #[sv, .int .u8 M, .int .u64 (m : Int)] w (Appended B w sv n xs 3 (cs [M + 25, (m : Int) / 256, (m : Int) % 256])) := by
  obtain ⟨i0, hi, hz0, hz1, hz2⟩ := info_parts Try.info5
  have ho := or_at M hM.out 25 (by omega) (by omega)
  have hq3 : n + 1 ≤ maxLen := by unfold maxLen; omega
  have hq4 : (n + 1) * 1 ≤ 140737488355328 := by omega
  have hq5 : ∀ {o : Obj}, w.heap.size < (w.alloc o).heap.size := by intro o; simp
  have hwr : IntKind.u16.wrap (m : Int) = (m : Int) := wraps_u16 (m : Int) (by omega) (by omega)
  go_enter Try.func15, Try.ntmps15
  go_wp2
  go_region_law (first
    | (refine step_append_lies _ rfl (.tmp 31) (.tmp 34) 22 rfl B 5 i0 (.int .u8 0) 1 1 Try.underlying22 hi hz0 hz1 hz2 rfl (by decide) sv n xs ?_ (hown.alloc (.cells #[.int .u8 (M + 25)] 5)) ⟨w.heap.size, 0, none⟩ 1 1 (cs [M + 25]) ?_ rfl (cell_one_new w (.int .u8 (M + 25)) 5) (cs_one _) (by decide) hq3 hq4 (Nat.le_trans hBw (Nat.le_of_lt hq5)) (w.heap.size + 1) ?_ ?_
       · simp [Act.eval]
       · simp [Act.eval]
       · simp
       intro g cap w2 hown' hgrow hat hlt)
    | (go_simp; go_wp2_with (go_at_call 16; refine (au16 B (n + 1) m (by omega) _ _ _ hown' ?_ (by omega)).mono ?_; exact Nat.le_trans hBw (Nat.le_trans (show w.heap.size ≤ _ by simp) hgrow.size); rintro e w3 ⟨g3, cap3, rfl, hown3, hgrow3, hat3⟩)))
  all_goals
    go_wp2
    go_ret
    exact appended_two (grown_trans (grown_alloc_drew _ _ _) hgrow) (at_le hat) hown3 hgrow3 hat3 rfl rfl

set_option maxHeartbeats 800000 in
theorem head4 (M : Int) (hM : Hid (M = 64 ∨ M = 96)) (B n m : Nat) (hm0 : 65535 < m) (hm : m ≤ 4294967295) (sv : Value) (xs : List Value) (w : World) (hown : w.ownsRow B 5 1 sv n xs) (hBw : B ≤ w.heap.size) (hlim : n + 6 ≤ 1000000000) :
    Calls Try.prog 15 #[sv, .int .u8 M, .int .u64 (m : Int)] w (Appended B w sv n xs 5 (cs [M + 26, (m : Int) / 16777216, (m : Int) / 65536 % 256, (m : Int) / 256 % 256, (m : Int) % 256])) := by
  obtain ⟨i0, hi, hz0, hz1, hz2⟩ := info_parts Try.info5
  have ho := or_at M hM.out 26 (by omega) (by omega)
  have hq3 : n + 1 ≤ maxLen := by unfold maxLen; omega
  have hq4 : (n + 1) * 1 ≤ 140737488355328 := by omega
  have hq5 : ∀ {o : Obj}, w.heap.size < (w.alloc o).heap.size := by intro o; simp
  have hwr : IntKind.u32.wrap (m : Int) = (m : Int) := wraps_u32 (m : Int) (by omega) (by omega)
  go_enter Try.func15, Try.ntmps15
  go_wp2
  go_region_law (first
    | (refine step_append_lies _ rfl (.tmp 43) (.tmp 46) 22 rfl B 5 i0 (.int .u8 0) 1 1 Try.underlying22 hi hz0 hz1 hz2 rfl (by decide) sv n xs ?_ (hown.alloc (.cells #[.int .u8 (M + 26)] 5)) ⟨w.heap.size, 0, none⟩ 1 1 (cs [M + 26]) ?_ rfl (cell_one_new w (.int .u8 (M + 26)) 5) (cs_one _) (by decide) hq3 hq4 (Nat.le_trans hBw (Nat.le_of_lt hq5)) (w.heap.size + 1) ?_ ?_
       · simp [Act.eval]
       · simp [Act.eval]
       · simp
       intro g cap w2 hown' hgrow hat hlt)
    | (go_simp; go_wp2_with (go_at_call 17; refine (au32 B (n + 1) m (by omega) _ _ _ hown' ?_ (by omega)).mono ?_; exact Nat.le_trans hBw (Nat.le_trans (show w.heap.size ≤ _ by simp) hgrow.size); rintro e w3 ⟨g3, cap3, rfl, hown3, hgrow3, hat3⟩)))
  all_goals
    go_wp2
    go_ret
    exact appended_two (grown_trans (grown_alloc_drew _ _ _) hgrow) (at_le hat) hown3 hgrow3 hat3 rfl rfl

/-- The head of an item of the major type whose bits are M, of length m. -/
def hd (M : Int) (m : Nat) : List Int :=
  if m < 24 then [M + (m : Int)]
  else if m ≤ 255 then [M + 24, (m : Int)]
  else if m ≤ 65535 then [M + 25, (m : Int) / 256, (m : Int) % 256]
  else [M + 26, (m : Int) / 16777216, (m : Int) / 65536 % 256, (m : Int) / 256 % 256, (m : Int) % 256]

theorem hd_length (M : Int) (m : Nat) : 1 ≤ (hd M m).length ∧ (hd M m).length ≤ 5 := by
  unfold hd
  repeat' split
  all_goals simp

/-- appendHead, whatever length up to 2^32 - 1. -/
theorem head_any (M : Int) (hM : M = 64 ∨ M = 96) (B n m : Nat) (hm : m ≤ 4294967295) (sv : Value) (xs : List Value) (w : World) (hown : w.ownsRow B 5 1 sv n xs) (hBw : B ≤ w.heap.size) (hlim : n + 6 ≤ 1000000000) :
    Calls Try.prog 15 #[sv, .int .u8 M, .int .u64 (m : Int)] w (Appended B w sv n xs (hd M m).length (cs (hd M m))) := by
  unfold hd
  by_cases h1 : m < 24
  · rw [if_pos h1]; exact head1 M hM B n m h1 sv xs w hown hBw (by omega)
  · rw [if_neg h1]
    by_cases h2 : m ≤ 255
    · rw [if_pos h2]; exact head2 M hM B n m (by omega) h2 sv xs w hown hBw (by omega)
    · rw [if_neg h2]
      by_cases h3 : m ≤ 65535
      · rw [if_pos h3]; exact head3 M hM B n m (by omega) h3 sv xs w hown hBw (by omega)
      · rw [if_neg h3]; exact head4 M hM B n m (by omega) hm sv xs w hown hBw hlim
end Go.Proofs.Qxb6612641a
