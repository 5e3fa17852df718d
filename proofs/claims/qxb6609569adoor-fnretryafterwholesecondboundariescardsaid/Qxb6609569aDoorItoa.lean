/-
  zzItoa's contract: the loop that fills the array of twenty bytes from behind.
-/
import Derived.Test.Qxb6609569aDoorLaw3
import Derived.Laws.BytesString
import Derived.Laws.IdiomStrings
namespace Go.Proofs.Qxb6609569aDoor
open Go Go.RowKit Go.Lib

/-- One round: the digit laid at its place. -/
theorem row_step (u j v : Nat) (C : Array Value) (hj : j < 20) (hv : v = u / 10 ^ j) (hC : C.size = 20) (hc : ∀ t, t < j → C[19 - t]? = some (.int .u8 ((dg u t).toNat : Int))) :
    ∀ t, t < j + 1 → (C.setIfInBounds (20 - j - 1) (.int .u8 (48 + (v : Int) % 10)))[19 - t]? = some (.int .u8 ((dg u t).toNat : Int)) := fun t ht => by
  rw [Array.getElem?_setIfInBounds]
  by_cases h : 20 - j - 1 = 19 - t
  · have e : t = j := by omega
    subst e
    rw [if_pos h, if_pos (by omega)]
    have : (dg u t).toNat = 48 + v % 10 := by
      unfold dg
      rw [UInt8.toNat_ofNat', ← hv]
      omega
    rw [this]
    congr 2
  · rw [if_neg h]
    exact hc t (by omega)

theorem quo_step (u j v : Nat) (hv : v = u / 10 ^ j) : v / 10 = u / 10 ^ (j + 1) := by
  rw [hv, Nat.pow_succ, Nat.div_div_eq_div_mul]

theorem in_round (u j v : Nat) (hv : v = u / 10 ^ j) (h : 0 < v) : j < nDigits u := by
  rcases Nat.lt_or_ge j (nDigits u) with h1 | h1
  · exact h1
  · have h2 := lt_pow_nDigits u
    have h3 := Nat.pow_le_pow_right (n := 10) (by decide) h1
    rw [Nat.div_eq_of_lt (by omega)] at hv
    omega

theorem out_round (u j v : Nat) (h1 : 1 ≤ u) (hj : j ≤ nDigits u) (hv : v = u / 10 ^ j) (h : ¬ 0 < v) : j = nDigits u := by
  rcases Nat.lt_or_ge j (nDigits u) with h2 | h2
  · have h3 := pow_le_nDigits u h1
    have h4 := Nat.pow_le_pow_right (n := 10) (by decide) (show j ≤ nDigits u - 1 by omega)
    have h5 : 1 ≤ u / 10 ^ j := (Nat.le_div_iff_mul_le (Nat.lt_of_lt_of_le Nat.zero_lt_one (Nat.one_le_pow _ _ (by decide)))).2 (by omega)
    omega
  · omega

set_option maxHeartbeats 400000 in
theorem zzitoa_any (u : Nat) (h1 : 1 ≤ u) (h2 : u ≤ 10000000000) (w : World) :
    Calls Tryd.prog 7 #[.int .i64 (u : Int)] w fun e w' => e = .returned (.string ⟨(decDigits u).toArray⟩) ∧ Below w.heap.size w w' := by
  have hn0 : ((u : Int) == 0) = false := by rw [beq_eq_false_iff_ne]; omega
  go_enter Tryd.func7, Tryd.ntmps7
  go_wp2
  go_loopw [0, 4] (fun n i wr => ∃ (j v : Nat) (C : Array Value), j ≤ nDigits u ∧ i = .int .i64 (20 - (j : Int)) ∧ n = .int .i64 (v : Int) ∧ Hid (v = u / 10 ^ j) ∧ wr = w.alloc (.cells C 28) ∧ Hid (C.size = 20) ∧ Hid (∀ t, t < j → C[19 - t]? = some (.int .u8 ((dg u t).toNat : Int)))) (fun n _ _ => (RowKit.intOf n).toNat)
  case atStart => exact ⟨0, u, _, Nat.zero_le _, rfl, rfl, by show u = u / 10 ^ 0; simp, rfl, rfl, fun t ht => absurd ht (Nat.not_lt_zero t)⟩
  case round =>
    obtain ⟨j, v, C, hj, rfl, rfl, hv, rfl, hC, hc⟩ := hrel
    have hj11 : j ≤ 11 := Nat.le_trans hj (nDigits_le11 u h2)
    have hvu : v ≤ 10000000000 := by rw [hv.out]; exact Nat.le_trans (Nat.div_le_self _ _) h2
    by_cases hlt : 0 < v
    · have hcell : ∃ old, C[20 - j - 1]? = some old := ⟨C[20 - j - 1]'(by rw [hC.out]; omega), Array.getElem?_eq_getElem _⟩
      obtain ⟨old, hold⟩ := hcell
      go_wp2
      exact ⟨⟨j + 1, v / 10, _, in_round u j v hv.out hlt, by go_num, by go_num, quo_step u j v hv.out, rfl, by show (C.setIfInBounds _ _).size = 20; rw [Array.size_setIfInBounds]; exact hC.out, row_step u j v C (by omega) hv.out hC.out hc.out⟩, by simp [RowKit.intOf]; omega⟩
    · have ej : Hid (j = nDigits u) := out_round u j v h1 hj hv.out hlt
      have hj1 : 1 ≤ j := by rw [ej.out]; exact nDigits_pos u
      have hsl : ∀ W, (Instr.sliceAt 28 (.pointer (some ⟨w.heap.size, 0, none⟩)) (some (.int .i64 (20 - (j : Int)))) none none).run Tryd.prog W = .ok (.slice (some ⟨w.heap.size, 20 - j, none⟩) j j) W := fun W => by
        have hal : Tryd.prog.arrayLen 28 = 20 := by simp [Program.arrayLen, Tryd.underlying28]
        rw [run_sliceAt_array_l W 28 ⟨w.heap.size, 0, none⟩ (by simp [Program.arrayLen, Program.elem, Tryd.underlying28]) .i64 (20 - (j : Int)) (by omega) (by rw [hal]; omega)]
        go_simp
        omega
      have hcv : (convert 29 9 (.slice (some ⟨w.heap.size, 20 - j, none⟩) j j)).run Tryd.prog (w.alloc (.cells C 28)) = .ok (.string ⟨(decDigits u).toArray⟩) (w.alloc (.cells C 28)) := by
        have h := run_convert_bytes_back (P := Tryd.prog) (w.alloc (.cells C 28)) 29 9 5 ⟨w.heap.size, 20 - j, none⟩ j (decDigits u) Tryd.underlying29 Tryd.underlying5 Tryd.underlying9 (fun t ht => by
          rw [add_plain, World.cell?_alloc_new]
          have hl := decDigits_length u
          have hE := ej.out
          have := hc.out (nDigits u - 1 - t) (by omega)
          rw [show 20 - j + t = 19 - (nDigits u - 1 - t) by omega, this]
          have e : (decDigits u)[t]? = some (dg u (nDigits u - 1 - t)) := by
            rw [decDigits_eq u, List.getElem?_map, List.getElem?_range (by omega)]
            rfl
          rw [List.getElem?_eq_getElem ht] at e
          rw [Option.some.inj e])
        rw [decDigits_length, ← ej.out] at h
        exact h
      clear hc hC
      go_wp2
      go_ret
      exact ⟨rfl, (Below.refl _ _).alloc (Nat.le_refl _) _⟩
end Go.Proofs.Qxb6609569aDoor
