/-
  zzReadItem's contract: the four heads.
-/
import Derived.Test.Qxb6612641aHead
namespace Go.Proofs.Qxb6612641a
open Go Go.RowKit

theorem and31_64 : ∀ m : Fin 32, bits .and .u8 (64 + (m.val : Int)) 31 = (m.val : Int) := by decide +kernel
theorem and31_96 : ∀ m : Fin 32, bits .and .u8 (96 + (m.val : Int)) 31 = (m.val : Int) := by decide +kernel
theorem and_at (M : Int) (hM : M = 64 ∨ M = 96) (m : Int) (h0 : 0 ≤ m) (h1 : m < 32) : bits .and .u8 (M + m) 31 = m := by
  obtain ⟨k, rfl⟩ : ∃ k : Nat, m = k := ⟨m.toNat, by omega⟩
  rcases hM with rfl | rfl
  · exact and31_64 ⟨k, by omega⟩
  · exact and31_96 ⟨k, by omega⟩

set_option maxHeartbeats 400000 in
theorem read1 (F maj : Int) (g N cap i m : Nat) (hs : (F / 32 == maj) = true) (ha : bits .and .u8 F 31 = (m : Int)) (hm : m < 24) (hN : N ≤ 10000000) (hi : i + 1 + m ≤ N) (w : World)
    (hc : w.cell? ⟨g, i, none⟩ = some (.int .u8 F)) :
    Calls Try.prog 10 #[.slice (some ⟨g, 0, none⟩) N cap, .int .i64 (i : Int), .int .u8 maj] w fun e w' => e = .returned (.tuple #[.int .i64 ((i : Int) + 1), .int .i64 ((i : Int) + 1 + (m : Int)), .bool true]) ∧ w' = w := by
  go_enter Try.func10, Try.ntmps10
  go_wp2
  refine wp_loop_rounds 1 ?_
  rw [rounds_succ]
  go_wp2
  go_ret3
  exact ⟨rfl, rfl⟩

theorem or_byte (x y : Int) (hx0 : 0 ≤ x) (hx1 : x ≤ 16777216) (hy0 : 0 ≤ y) (hy1 : y ≤ 255) : bits .or .u64 (x * 256) y = x * 256 + y :=
  bits_join .u64 64 (by decide) wraps_u64 8 (x * 256) y (by omega) (by omega) (by omega) hy0 (by omega) (by omega)

theorem ret_three {a b c d : Int} (h1 : a = b) (h2 : c = d) : Ending.returned (.tuple #[.int .i64 a, .int .i64 c, .bool true]) = .returned (.tuple #[.int .i64 b, .int .i64 d, .bool true]) := by rw [h1, h2]

set_option maxHeartbeats 800000 in
/-- An item whose head has 1 byte(s) behind the first. -/
theorem read2 (F maj : Int) (A : Nat → Int) (V : Nat → Int) (g N cap i m : Nat) (hs : (F / 32 == maj) = true) (ha : bits .and .u8 F 31 = 24) (hm : 24 ≤ m) (hm2 : m ≤ 262144) (hN : N ≤ 10000000) (hi : i + 1 + 1 + m ≤ N) (w : World)
    (hc : w.cell? ⟨g, i, none⟩ = some (.int .u8 F)) (hv : Hid (∀ k, k < 1 → w.cell? ⟨g, i + 1 + k, none⟩ = some (.int .u8 (V k)) ∧ 0 ≤ V k ∧ V k ≤ 255))
    (hA0 : Hid (A 0 = 0)) (hA : Hid (∀ k, k < 1 → A (k + 1) = A k * 256 + V k)) (hAe : Hid (A 1 = (m : Int))) (hAb : ∀ k, 0 ≤ A k ∧ A k ≤ 262144) :
    Calls Try.prog 10 #[.slice (some ⟨g, 0, none⟩) N cap, .int .i64 (i : Int), .int .u8 maj] w fun e w' => e = .returned (.tuple #[.int .i64 ((i : Int) + 1 + 1), .int .i64 ((i : Int) + 1 + 1 + (m : Int)), .bool true]) ∧ w' = w := by
  go_enter Try.func10, Try.ntmps10
  go_wp2
  go_loop [12, 14] (fun n k => ∃ j : Nat, j ≤ 1 ∧ k = .int .i64 j ∧ n = .int .u64 (A j)) (fun _ k => 1 - (intOf k).toNat)
  case atStart => exact ⟨0, by omega, rfl, by rw [hA0.out]⟩
  case round =>
    obtain ⟨j, hj, rfl, rfl⟩ := hrel
    have hb := hAb j
    by_cases hlt : j < 1
    · obtain ⟨c1, v0, v1⟩ := hv.out j hlt
      have hor := or_byte (A j) (V j) hb.1 (by omega) v0 v1
      go_wp2
      exact ⟨⟨j + 1, by omega, by go_num, by rw [hA.out j hlt]⟩, by simp [intOf]; omega⟩
    · have ej : j = 1 := by omega
      subst ej
      obtain ⟨a, hae⟩ : ∃ a : Int, Hid (a = A 1) := ⟨_, rfl⟩
      rw [← hae.out]
      have b1 : 24 ≤ a := by rw [hae.out, hAe.out]; omega
      have b2 : a ≤ (N : Int) - ((i : Int) + 1 + 1) := by rw [hae.out, hAe.out]; omega
      have b3 : (i : Int) + 1 + 1 ≤ (N : Int) := by omega
      have b4 : a ≤ 262144 := by rw [hae.out, hAe.out]; omega
      have he : Hid (a = (m : Int)) := hae.out.trans hAe.out
      clear hb hAb hm hm2
      go_wp2
      go_ret3
      exact ⟨ret_three (by omega) (by rw [he.out]), rfl⟩

set_option maxHeartbeats 800000 in
/-- An item whose head has 2 byte(s) behind the first. -/
theorem read3 (F maj : Int) (A : Nat → Int) (V : Nat → Int) (g N cap i m : Nat) (hs : (F / 32 == maj) = true) (ha : bits .and .u8 F 31 = 25) (hm : 256 ≤ m) (hm2 : m ≤ 262144) (hN : N ≤ 10000000) (hi : i + 1 + 2 + m ≤ N) (w : World)
    (hc : w.cell? ⟨g, i, none⟩ = some (.int .u8 F)) (hv : Hid (∀ k, k < 2 → w.cell? ⟨g, i + 1 + k, none⟩ = some (.int .u8 (V k)) ∧ 0 ≤ V k ∧ V k ≤ 255))
    (hA0 : Hid (A 0 = 0)) (hA : Hid (∀ k, k < 2 → A (k + 1) = A k * 256 + V k)) (hAe : Hid (A 2 = (m : Int))) (hAb : ∀ k, 0 ≤ A k ∧ A k ≤ 262144) :
    Calls Try.prog 10 #[.slice (some ⟨g, 0, none⟩) N cap, .int .i64 (i : Int), .int .u8 maj] w fun e w' => e = .returned (.tuple #[.int .i64 ((i : Int) + 1 + 2), .int .i64 ((i : Int) + 1 + 2 + (m : Int)), .bool true]) ∧ w' = w := by
  go_enter Try.func10, Try.ntmps10
  go_wp2
  go_loop [12, 14] (fun n k => ∃ j : Nat, j ≤ 2 ∧ k = .int .i64 j ∧ n = .int .u64 (A j)) (fun _ k => 2 - (intOf k).toNat)
  case atStart => exact ⟨0, by omega, rfl, by rw [hA0.out]⟩
  case round =>
    obtain ⟨j, hj, rfl, rfl⟩ := hrel
    have hb := hAb j
    by_cases hlt : j < 2
    · obtain ⟨c1, v0, v1⟩ := hv.out j hlt
      have hor := or_byte (A j) (V j) hb.1 (by omega) v0 v1
      go_wp2
      exact ⟨⟨j + 1, by omega, by go_num, by rw [hA.out j hlt]⟩, by simp [intOf]; omega⟩
    · have ej : j = 2 := by omega
      subst ej
      obtain ⟨a, hae⟩ : ∃ a : Int, Hid (a = A 2) := ⟨_, rfl⟩
      rw [← hae.out]
      have b1 : 256 ≤ a := by rw [hae.out, hAe.out]; omega
      have b2 : a ≤ (N : Int) - ((i : Int) + 1 + 2) := by rw [hae.out, hAe.out]; omega
      have b3 : (i : Int) + 1 + 2 ≤ (N : Int) := by omega
      have b4 : a ≤ 262144 := by rw [hae.out, hAe.out]; omega
      have he : Hid (a = (m : Int)) := hae.out.trans hAe.out
      clear hb hAb hm hm2
      go_wp2
      go_ret3
      exact ⟨ret_three (by omega) (by rw [he.out]), rfl⟩

set_option maxHeartbeats 800000 in
/-- An item whose head has 4 byte(s) behind the first. -/
theorem read4 (F maj : Int) (A : Nat → Int) (V : Nat → Int) (g N cap i m : Nat) (hs : (F / 32 == maj) = true) (ha : bits .and .u8 F 31 = 26) (hm : 65536 ≤ m) (hm2 : m ≤ 262144) (hN : N ≤ 10000000) (hi : i + 1 + 4 + m ≤ N) (w : World)
    (hc : w.cell? ⟨g, i, none⟩ = some (.int .u8 F)) (hv : Hid (∀ k, k < 4 → w.cell? ⟨g, i + 1 + k, none⟩ = some (.int .u8 (V k)) ∧ 0 ≤ V k ∧ V k ≤ 255))
    (hA0 : Hid (A 0 = 0)) (hA : Hid (∀ k, k < 4 → A (k + 1) = A k * 256 + V k)) (hAe : Hid (A 4 = (m : Int))) (hAb : ∀ k, 0 ≤ A k ∧ A k ≤ 262144) :
    Calls Try.prog 10 #[.slice (some ⟨g, 0, none⟩) N cap, .int .i64 (i : Int), .int .u8 maj] w fun e w' => e = .returned (.tuple #[.int .i64 ((i : Int) + 1 + 4), .int .i64 ((i : Int) + 1 + 4 + (m : Int)), .bool true]) ∧ w' = w := by
  go_enter Try.func10, Try.ntmps10
  go_wp2
  go_loop [12, 14] (fun n k => ∃ j : Nat, j ≤ 4 ∧ k = .int .i64 j ∧ n = .int .u64 (A j)) (fun _ k => 4 - (intOf k).toNat)
  case atStart => exact ⟨0, by omega, rfl, by rw [hA0.out]⟩
  case round =>
    obtain ⟨j, hj, rfl, rfl⟩ := hrel
    have hb := hAb j
    by_cases hlt : j < 4
    · obtain ⟨c1, v0, v1⟩ := hv.out j hlt
      have hor := or_byte (A j) (V j) hb.1 (by omega) v0 v1
      go_wp2
      exact ⟨⟨j + 1, by omega, by go_num, by rw [hA.out j hlt]⟩, by simp [intOf]; omega⟩
    · have ej : j = 4 := by omega
      subst ej
      obtain ⟨a, hae⟩ : ∃ a : Int, Hid (a = A 4) := ⟨_, rfl⟩
      rw [← hae.out]
      have b1 : 65536 ≤ a := by rw [hae.out, hAe.out]; omega
      have b2 : a ≤ (N : Int) - ((i : Int) + 1 + 4) := by rw [hae.out, hAe.out]; omega
      have b3 : (i : Int) + 1 + 4 ≤ (N : Int) := by omega
      have b4 : a ≤ 262144 := by rw [hae.out, hAe.out]; omega
      have he : Hid (a = (m : Int)) := hae.out.trans hAe.out
      clear hb hAb hm hm2
      go_wp2
      go_ret3
      exact ⟨ret_three (by omega) (by rw [he.out]), rfl⟩

theorem shr_at (M maj x : Int) (hM : M = 64 ∧ maj = 2 ∨ M = 96 ∧ maj = 3) (h0 : 0 ≤ x) (h1 : x < 32) : ((M + x) / 32 == maj) = true := by
  rw [beq_iff_eq]
  omega

/-- zzReadItem at an item that appendHead began: where the payload starts, where it ends; nothing turns. -/
theorem read_any (M maj : Int) (hM : M = 64 ∧ maj = 2 ∨ M = 96 ∧ maj = 3) (g N cap i m : Nat) (hm2 : m ≤ 262144) (hN : N ≤ 10000000) (hi : i + (hd M m).length + m ≤ N) (w : World)
    (hc : ∀ j, j < (hd M m).length → w.cell? ⟨g, i + j, none⟩ = some (.int .u8 ((hd M m).getD j 0))) (x : Int) (hx : x = (i : Int)) :
    Calls Try.prog 10 #[.slice (some ⟨g, 0, none⟩) N cap, .int .i64 x, .int .u8 maj] w fun e w' => e = .returned (.tuple #[.int .i64 ((i + (hd M m).length : Nat) : Int), .int .i64 ((i + (hd M m).length + m : Nat) : Int), .bool true]) ∧ w' = w := by
  subst hx
  have hM' : M = 64 ∨ M = 96 := hM.elim (fun h => .inl h.1) (fun h => .inr h.1)
  unfold hd at hc hi ⊢
  by_cases h1 : m < 24
  · rw [if_pos h1] at hc hi ⊢
    simp only [List.length_cons, List.length_nil] at hc hi ⊢
    refine (read1 (M + (m : Int)) maj g N cap i m (shr_at M maj _ hM (by omega) (by omega)) (and_at M hM' _ (by omega) (by omega)) h1 hN (by omega) w (hc 0 (by omega))).mono ?_
    rintro e w' ⟨rfl, rfl⟩
    exact ⟨ret_three (by omega) (by omega), rfl⟩
  · rw [if_neg h1] at hc hi ⊢
    by_cases h2 : m ≤ 255
    · rw [if_pos h2] at hc hi ⊢
      simp only [List.length_cons, List.length_nil] at hc hi ⊢
      refine (read2 (M + 24) maj (fun k => if k = 0 then 0 else (m : Int)) (fun _ => (m : Int)) g N cap i m (shr_at M maj _ hM (by omega) (by omega)) (and_at M hM' _ (by omega) (by omega)) (by omega) hm2 hN (by omega) w (hc 0 (by omega))
        (fun k hk => by
          obtain rfl : k = 0 := by omega
          exact ⟨hc 1 (by omega), by omega, by omega⟩)
        rfl
        (fun k hk => by
          obtain rfl : k = 0 := by omega
          show (m : Int) = 0 * 256 + (m : Int)
          omega)
        rfl
        (fun k => by show 0 ≤ (if k = 0 then (0 : Int) else (m : Int)) ∧ (if k = 0 then (0 : Int) else (m : Int)) ≤ _; split <;> omega)).mono ?_
      rintro e w' ⟨rfl, rfl⟩
      exact ⟨ret_three (by omega) (by omega), rfl⟩
    · rw [if_neg h2] at hc hi ⊢
      by_cases h3 : m ≤ 65535
      · rw [if_pos h3] at hc hi ⊢
        simp only [List.length_cons, List.length_nil] at hc hi ⊢
        refine (read3 (M + 25) maj (fun k => if k = 0 then 0 else if k = 1 then (m : Int) / 256 else (m : Int)) (fun k => if k = 0 then (m : Int) / 256 else (m : Int) % 256) g N cap i m (shr_at M maj _ hM (by omega) (by omega)) (and_at M hM' _ (by omega) (by omega)) (by omega) hm2 hN (by omega) w (hc 0 (by omega))
          (fun k hk => by
            rcases (show k = 0 ∨ k = 1 by omega) with rfl | rfl
            · exact ⟨hc 1 (by omega), by show 0 ≤ (m : Int) / 256; omega, by show (m : Int) / 256 ≤ 255; omega⟩
            · exact ⟨hc 2 (by omega), by show 0 ≤ (m : Int) % 256; omega, by show (m : Int) % 256 ≤ 255; omega⟩)
          rfl
          (fun k hk => by
            rcases (show k = 0 ∨ k = 1 by omega) with rfl | rfl
            · show (m : Int) / 256 = 0 * 256 + (m : Int) / 256; omega
            · show (m : Int) = (m : Int) / 256 * 256 + (m : Int) % 256; omega)
          rfl
          (fun k => by
            show 0 ≤ (if k = 0 then (0 : Int) else if k = 1 then (m : Int) / 256 else (m : Int)) ∧ (if k = 0 then (0 : Int) else if k = 1 then (m : Int) / 256 else (m : Int)) ≤ _
            split
            · omega
            · split <;> omega)).mono ?_
        rintro e w' ⟨rfl, rfl⟩
        exact ⟨ret_three (by omega) (by omega), rfl⟩
      · rw [if_neg h3] at hc hi ⊢
        simp only [List.length_cons, List.length_nil] at hc hi ⊢
        refine (read4 (M + 26) maj (fun k => if k = 0 then 0 else if k = 1 then (m : Int) / 16777216 else if k = 2 then (m : Int) / 65536 else if k = 3 then (m : Int) / 256 else (m : Int))
          (fun k => if k = 0 then (m : Int) / 16777216 else if k = 1 then (m : Int) / 65536 % 256 else if k = 2 then (m : Int) / 256 % 256 else (m : Int) % 256) g N cap i m (shr_at M maj _ hM (by omega) (by omega)) (and_at M hM' _ (by omega) (by omega)) (by omega) hm2 hN (by omega) w (hc 0 (by omega))
          (fun k hk => by
            rcases (show k = 0 ∨ k = 1 ∨ k = 2 ∨ k = 3 by omega) with rfl | rfl | rfl | rfl
            · exact ⟨hc 1 (by omega), by show 0 ≤ (m : Int) / 16777216; omega, by show (m : Int) / 16777216 ≤ 255; omega⟩
            · exact ⟨hc 2 (by omega), by show 0 ≤ (m : Int) / 65536 % 256; omega, by show (m : Int) / 65536 % 256 ≤ 255; omega⟩
            · exact ⟨hc 3 (by omega), by show 0 ≤ (m : Int) / 256 % 256; omega, by show (m : Int) / 256 % 256 ≤ 255; omega⟩
            · exact ⟨hc 4 (by omega), by show 0 ≤ (m : Int) % 256; omega, by show (m : Int) % 256 ≤ 255; omega⟩)
          rfl
          (fun k hk => by
            rcases (show k = 0 ∨ k = 1 ∨ k = 2 ∨ k = 3 by omega) with rfl | rfl | rfl | rfl
            · show (m : Int) / 16777216 = 0 * 256 + (m : Int) / 16777216; omega
            · show (m : Int) / 65536 = (m : Int) / 16777216 * 256 + (m : Int) / 65536 % 256; omega
            · show (m : Int) / 256 = (m : Int) / 65536 * 256 + (m : Int) / 256 % 256; omega
            · show (m : Int) = (m : Int) / 256 * 256 + (m : Int) % 256; omega)
          rfl
          (fun k => by
            show 0 ≤ (if k = 0 then (0 : Int) else if k = 1 then (m : Int) / 16777216 else if k = 2 then (m : Int) / 65536 else if k = 3 then (m : Int) / 256 else (m : Int)) ∧ (if k = 0 then (0 : Int) else if k = 1 then (m : Int) / 16777216 else if k = 2 then (m : Int) / 65536 else if k = 3 then (m : Int) / 256 else (m : Int)) ≤ _
            split
            · omega
            · split
              · omega
              · split
                · omega
                · split <;> omega)).mono ?_
        rintro e w' ⟨rfl, rfl⟩
        exact ⟨ret_three (by omega) (by omega), rfl⟩
end Go.Proofs.Qxb6612641a
