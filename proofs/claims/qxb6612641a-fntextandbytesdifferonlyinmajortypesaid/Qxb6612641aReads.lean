/-
  The callees that read, and zzCloneBytes: contracts.
-/
import Derived.Test.Qxb6612641aProg
import Derived.WalkKit
import Derived.WalkSpells
import Derived.OwnWalk
import Derived.RegionTactic
import Derived.Deep.Draws
import Derived.Below
import Derived.Deep.QuietTactic
import Derived.BigQuiet
namespace Go.Proofs.Qxb6612641a
open Go Go.RowKit

/-- The slice at 'a' reads as the bytes 'l' (nothing is asked where there are none). -/
def Bytes (w : World) (a : Option Addr) (l : List Int) : Prop :=
  l = [] ∨ ∃ b o, a = some ⟨b, o, none⟩ ∧ ∀ i, i < l.length → w.cell? ⟨b, o + i, none⟩ = some (.int .u8 (l.getD i 0))

theorem Try.info5 : (Try.prog.info? 5).map (fun i => (i.zero, i.size, i.bytes)) = some (some (.int .u8 0), 1, 1) := by kernel_rfl

set_option maxHeartbeats 400000 in
theorem same_some (l : List Int) (b1 o1 b2 o2 c1 c2 : Nat) (hl : l.length ≤ maxLen) (w : World)
    (h1 : Hid (∀ i, i < l.length → w.cell? ⟨b1, o1 + i, none⟩ = some (.int .u8 (l.getD i 0)))) (h2 : Hid (∀ i, i < l.length → w.cell? ⟨b2, o2 + i, none⟩ = some (.int .u8 (l.getD i 0)))) :
    Calls Try.prog 9 #[.slice (some ⟨b1, o1, none⟩) l.length c1, .slice (some ⟨b2, o2, none⟩) l.length c2] w fun e w' => e = .returned (.bool true) ∧ ∃ k, w' = w.drewN k := by
  unfold maxLen at hl
  generalize hn : l.length = n at hl h1 h2 ⊢
  clear hn
  go_enter Try.func9, Try.ntmps9
  go_wp2
  go_loopw [5] (fun i wr => ∃ (k m : Nat), k ≤ n ∧ i = .int .i64 k ∧ wr = w.drewN m) (fun i _ => n - (intOf i).toNat)
  case atStart => exact ⟨0, 0, Nat.zero_le _, rfl, rfl⟩
  case round =>
    obtain ⟨k, m, hk, rfl, rfl⟩ := hrel
    by_cases hlt : k < n
    · have c1 := h1.out k hlt
      have c2 := h2.out k hlt
      go_wp2
      go_quiet (fail)
      go_wp2
      go_roundw
      case rel => exact ⟨k + 1, _, by omega, by go_num, rfl⟩
      case measure => simp [intOf]; omega
    · go_wp2
      go_ret
      exact ⟨rfl, m, rfl⟩

set_option maxHeartbeats 400000 in
theorem same_nil (a1 a2 : Option Addr) (c1 c2 : Nat) (w : World) :
    Calls Try.prog 9 #[.slice a1 0 c1, .slice a2 0 c2] w fun e w' => e = .returned (.bool true) ∧ ∃ k, w' = w.drewN k := by
  go_enter Try.func9, Try.ntmps9
  go_wp2
  refine wp_loop_rounds 1 ?_
  rw [rounds_succ]
  go_wp2
  go_ret
  exact ⟨rfl, 0, rfl⟩

/-- zzSameBytes on two slices that read alike: true; nothing but draws. -/
theorem same_any (l : List Int) (a1 a2 : Option Addr) (c1 c2 : Nat) (hl : l.length ≤ maxLen) (w : World) (h1 : Bytes w a1 l) (h2 : Bytes w a2 l) :
    Calls Try.prog 9 #[.slice a1 l.length c1, .slice a2 l.length c2] w fun e w' => e = .returned (.bool true) ∧ ∃ k, w' = w.drewN k := by
  rcases h1 with rfl | ⟨b1, o1, rfl, r1⟩
  · exact same_nil a1 a2 c1 c2 w
  · rcases h2 with rfl | ⟨b2, o2, rfl, r2⟩
    · exact same_nil _ a2 c1 c2 w
    · exact same_some l b1 o1 b2 o2 c1 c2 hl w r1 r2

/-- A string's bytes, as integers. -/
def ints (s : ByteArray) : List Int := s.data.toList.map fun b => (b.toNat : Int)
theorem ints_length (s : ByteArray) : (ints s).length = s.size := by
  unfold ints
  rw [List.length_map, Array.length_toList]
  rfl
theorem ints_at (s : ByteArray) (k : Nat) (h : k < s.size) : (ints s).getD k 0 = ((s[k]).toNat : Int) := by
  unfold ints
  rw [List.getD_eq_getElem?_getD, List.getElem?_map, List.getElem?_eq_getElem (show k < s.data.toList.length by rw [Array.length_toList]; exact h)]
  rfl

set_option maxHeartbeats 400000 in
theorem sameText_some (s : ByteArray) (b1 o1 c1 : Nat) (hs : s.size ≤ maxLen) (w : World)
    (h1 : Hid (∀ i, i < s.size → w.cell? ⟨b1, o1 + i, none⟩ = some (.int .u8 ((ints s).getD i 0)))) :
    Calls Try.prog 13 #[.slice (some ⟨b1, o1, none⟩) s.size c1, .string s] w fun e w' => e = .returned (.bool true) ∧ ∃ k, w' = w.drewN k := by
  unfold maxLen at hs
  go_enter Try.func13, Try.ntmps13
  go_wp2
  go_loopw [5] (fun i wr => ∃ (k m : Nat), k ≤ s.size ∧ i = .int .i64 k ∧ wr = w.drewN m) (fun i _ => s.size - (intOf i).toNat)
  case atStart => exact ⟨0, 0, Nat.zero_le _, rfl, rfl⟩
  case round =>
    obtain ⟨k, m, hk, rfl, rfl⟩ := hrel
    by_cases hlt : k < s.size
    · have c1 := h1.out k hlt
      rw [ints_at s k hlt] at c1
      go_wp2
      go_quiet (fail)
      go_wp2
      go_roundw
      case rel => exact ⟨k + 1, _, by omega, by go_num, rfl⟩
      case measure => simp [intOf]; omega
    · go_wp2
      go_ret
      exact ⟨rfl, m, rfl⟩

set_option maxHeartbeats 400000 in
theorem sameText_nil (s : ByteArray) (a1 : Option Addr) (c1 : Nat) (hs : s.size = 0) (w : World) :
    Calls Try.prog 13 #[.slice a1 0 c1, .string s] w fun e w' => e = .returned (.bool true) ∧ ∃ k, w' = w.drewN k := by
  go_enter Try.func13, Try.ntmps13
  go_wp2
  refine wp_loop_rounds 1 ?_
  rw [rounds_succ]
  go_wp2
  go_ret
  exact ⟨rfl, 0, rfl⟩

theorem sameText_any (s : ByteArray) (a1 : Option Addr) (c1 : Nat) (hs : s.size ≤ maxLen) (w : World) (h1 : Bytes w a1 (ints s)) :
    Calls Try.prog 13 #[.slice a1 s.size c1, .string s] w fun e w' => e = .returned (.bool true) ∧ ∃ k, w' = w.drewN k := by
  by_cases h0 : s.size = 0
  · rw [h0]; exact sameText_nil s a1 c1 h0 w
  · rcases h1 with h | ⟨b1, o1, rfl, r1⟩
    · exact absurd (by rw [← ints_length, h]; rfl) h0
    · exact sameText_some s b1 o1 c1 hs w (by rw [ints_length] at r1; exact r1)

/-! ### zzCloneBytes -/
set_option maxHeartbeats 400000 in
theorem clone_nil (w : World) : Calls Try.prog 7 #[.slice none 0 0] w fun e w' => e = .returned (.slice none 0 0) ∧ w' = w := by
  have he := fun (w : World) (a : Option Addr) (n c n' c' : Nat) => Lib.run_eql_slice_nil (P := Try.prog) w 22 5 a n c n' c' Try.underlying22
  go_enter Try.func7, Try.ntmps7
  go_wp2
  go_ret
  exact ⟨rfl, rfl⟩

theorem make_n (n : Nat) (hn : n ≤ 262144) (w : World) : (Instr.makeSlice 22 (.int .i64 (n : Int)) (.int .i64 (n : Int))).run Try.prog w = .ok (.slice (some ⟨w.heap.size, 0, none⟩) n n) (w.alloc (.cells (madeCells #[.int .u8 0] n) 5)) := by
  obtain ⟨i0, hi, hz0, hz1, hz2⟩ := info_parts Try.info5
  have := run_make (P := Try.prog) w 22 5 i0 (.int .u8 0) Try.underlying22 hi hz0 .i64 .i64 n n (by omega) (by omega) (by rw [hz2]; omega) (by omega)
  rw [hz1] at this
  simpa [Value.cells] using this

set_option maxHeartbeats 400000 in
theorem clone_zero (x : Addr) (c : Nat) (w : World) :
    Calls Try.prog 7 #[.slice (some x) 0 c] w fun e w' => e = .returned (.slice (some ⟨w.heap.size, 0, none⟩) 0 0) ∧ w' = w.alloc (.cells #[] 5) := by
  have he := fun (w : World) (a : Option Addr) (n c n' c' : Nat) => Lib.run_eql_slice_nil (P := Try.prog) w 22 5 a n c n' c' Try.underlying22
  have hmk : ∀ w, (Instr.makeSlice 22 (.int .i64 0) (.int .i64 0)).run Try.prog w = .ok (.slice (some ⟨w.heap.size, 0, none⟩) 0 0) (w.alloc (.cells #[] 5)) := fun w => by
    have h := make_n 0 (by omega) w
    rw [show madeCells #[.int .u8 0] 0 = #[] from Array.eq_empty_of_size_eq_zero (size_madeCells _ _)] at h
    exact h
  go_enter Try.func7, Try.ntmps7
  go_wp2
  refine wp_loop_rounds 1 ?_
  rw [rounds_succ]
  go_wp2
  go_ret
  exact ⟨rfl, rfl⟩

/-- One round of the copy. -/
theorem copy_step (l : List Int) (k n : Nat) (C : Array Value) (hk : k < n) (hC : C.size = n) (hc : ∀ j, j < k → C[j]? = some (.int .u8 (l.getD j 0))) :
    ∀ j, j < k + 1 → (C.setIfInBounds k (.int .u8 (l.getD k 0)))[j]? = some (.int .u8 (l.getD j 0)) := fun j hj => by
  rw [Array.getElem?_setIfInBounds]
  by_cases h : k = j
  · subst h
    rw [if_pos rfl, if_pos (by omega)]
  · rw [if_neg h]
    exact hc j (by omega)

theorem copy_end (l : List Int) (n : Nat) (C : Array Value) (hn : l.length = n) (hC : C.size = n) (hc : ∀ j, j < n → C[j]? = some (.int .u8 (l.getD j 0))) : C = (l.map (Value.int .u8)).toArray := by
  apply Array.ext_getElem?
  intro j
  by_cases hj : j < n
  · rw [hc j hj]
    simp only [List.getElem?_toArray, List.getElem?_map]
    rw [List.getElem?_eq_getElem (by omega), List.getD_eq_getElem?_getD, List.getElem?_eq_getElem (by omega)]
    rfl
  · rw [Array.getElem?_eq_none (by omega), Array.getElem?_eq_none (by simp; omega)]

set_option maxHeartbeats 400000 in
theorem clone_pos (l : List Int) (n b o c : Nat) (hn : Hid (l.length = n)) (hl : n ≤ 262144) (w : World) (hb : b < w.heap.size)
    (h1 : Hid (∀ i, i < n → w.cell? ⟨b, o + i, none⟩ = some (.int .u8 (l.getD i 0)))) :
    Calls Try.prog 7 #[.slice (some ⟨b, o, none⟩) n c] w fun e w' => e = .returned (.slice (some ⟨w.heap.size, 0, none⟩) n n) ∧ w' = w.alloc (.cells (l.map (Value.int .u8)).toArray 5) := by
  have he := fun (w : World) (a : Option Addr) (n c n' c' : Nat) => Lib.run_eql_slice_nil (P := Try.prog) w 22 5 a n c n' c' Try.underlying22
  have hmk := make_n n hl
  go_enter Try.func7, Try.ntmps7
  go_wp2
  clear hmk he
  go_loopw [4] (fun i wr => ∃ (k : Nat) (C : Array Value), k ≤ n ∧ i = .int .i64 k ∧ wr = w.alloc (.cells C 5) ∧ Hid (C.size = n) ∧ Hid (∀ j, j < k → C[j]? = some (.int .u8 (l.getD j 0)))) (fun i _ => n - (intOf i).toNat)
  case atStart => exact ⟨0, _, Nat.zero_le _, rfl, rfl, size_madeCells _ _, fun j hj => absurd hj (Nat.not_lt_zero j)⟩
  case round =>
    obtain ⟨k, C, hk, rfl, rfl, hC, hc⟩ := hrel
    by_cases hlt : k < n
    · have c1 : ∀ ob, (w.alloc ob).cell? ⟨b, o + k, none⟩ = some (.int .u8 (l.getD k 0)) := fun ob => by rw [World.cell?_alloc_lt _ _ ⟨b, o + k, none⟩ hb]; exact h1.out k hlt
      obtain ⟨old, hold⟩ : ∃ old, C[k]? = some old := ⟨C[k]'(by rw [hC.out]; omega), Array.getElem?_eq_getElem _⟩
      go_wp2
      exact ⟨⟨k + 1, _, by omega, by go_num, rfl, by show (C.setIfInBounds _ _).size = n; rw [Array.size_setIfInBounds]; exact hC.out, copy_step l k n C hlt hC.out hc.out⟩, by simp [intOf]; omega⟩
    · have ek : Hid (k = n) := by unfold Hid; omega
      go_wp2
      go_ret
      refine ⟨rfl, ?_⟩
      rw [copy_end l n C hn.out hC.out (by rw [← ek.out]; exact hc.out)]

/-- zzCloneBytes on a slice that came in: nil for nil; else a new row that holds the same bytes, and no more. -/
theorem clone_any (l : List Int) (a : Option Addr) (c : Nat) (hl : l.length ≤ 262144) (w : World) (hnil : a = none → l = [] ∧ c = 0) (h : Bytes w a l) :
    Calls Try.prog 7 #[.slice a l.length c] w fun e w' => (a = none ∧ e = .returned (.slice none 0 0) ∧ w' = w) ∨ (e = .returned (.slice (some ⟨w.heap.size, 0, none⟩) l.length l.length) ∧ w' = w.alloc (.cells (l.map (Value.int .u8)).toArray 5)) := by
  cases a with
  | none =>
    obtain ⟨rfl, rfl⟩ := hnil rfl
    exact (clone_nil w).mono fun e w' h => .inl ⟨rfl, h⟩
  | some x =>
    rcases h with rfl | ⟨b, o, hx, r⟩
    · exact (clone_zero x c w).mono fun e w' h => .inr h
    · cases hx
      by_cases h0 : l.length = 0
      · have : l = [] := List.eq_nil_of_length_eq_zero h0
        subst this
        exact (clone_zero _ c w).mono fun e w' h => .inr h
      · have hb : b < w.heap.size := by
          have := r 0 (by omega)
          rcases Nat.lt_or_ge b w.heap.size with hlt | hge
          · exact hlt
          · simp [World.cell?, Array.getElem?_eq_none hge] at this
        exact (clone_pos l l.length b o c rfl hl w hb r).mono fun e w' h => .inr h
end Go.Proofs.Qxb6612641a
