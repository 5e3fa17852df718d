/-
  FnTextAndBytesDifferOnlyInMajorType: the walk.
-/
import Derived.Test.Qxb6612641aLaw4
import Derived.Laws.IdiomStrings
namespace Go.Proofs.Qxb6612641a
open Go Go.RowKit

/-! ### The two heads -/
def inf (m : Nat) : Int := if m < 24 then (m : Int) else if m ≤ 255 then 24 else if m ≤ 65535 then 25 else 26
theorem inf_bounds (m : Nat) : 0 ≤ inf m ∧ inf m < 32 := by
  unfold inf
  repeat' split
  all_goals omega
theorem hd_first (M : Int) (m : Nat) : (hd M m).getD 0 0 = M + inf m := by
  unfold hd inf
  repeat' split
  all_goals rfl
theorem hd_len_eq (m : Nat) : (hd 96 m).length = (hd 64 m).length := by
  unfold hd
  repeat' split
  all_goals rfl
theorem hd_tail (m j : Nat) (hj : 1 ≤ j) : (hd 96 m).getD j 0 = (hd 64 m).getD j 0 := by
  obtain ⟨i, rfl⟩ : ∃ i, j = i + 1 := ⟨j - 1, by omega⟩
  unfold hd
  repeat' split
  all_goals rfl

/-- The two rows agree behind the first head byte. -/
theorem rows_agree (l0 t : List Int) (m i : Nat) (h : l0.length < i) : (l0 ++ hd 96 m ++ t).getD i 0 = (l0 ++ hd 64 m ++ t).getD i 0 := by
  have hlen := hd_len_eq m
  simp only [List.getD_eq_getElem?_getD]
  by_cases h1 : i < l0.length + (hd 64 m).length
  · rw [List.getElem?_append_left (by rw [List.length_append]; omega), List.getElem?_append_left (l₁ := l0 ++ hd 64 m) (by rw [List.length_append]; omega), List.getElem?_append_right (by omega), List.getElem?_append_right (by omega)]
    have := hd_tail m (i - l0.length) (by omega)
    simpa only [List.getD_eq_getElem?_getD] using this
  · rw [List.getElem?_append_right (by rw [List.length_append]; omega), List.getElem?_append_right (l₁ := l0 ++ hd 64 m) (by rw [List.length_append]; omega), List.length_append, List.length_append, hlen]
theorem row_first (l0 t : List Int) (M : Int) (m : Nat) : (l0 ++ hd M m ++ t).getD l0.length 0 = M + inf m := by
  have := (hd_length M m).1
  rw [List.getD_eq_getElem?_getD, List.getElem?_append_left (by rw [List.length_append]; omega), List.getElem?_append_right (by omega), Nat.sub_self, ← List.getD_eq_getElem?_getD]
  exact hd_first M m

/-! ### '[]byte(s)' -/
theorem conv_bytes (s : ByteArray) (w : World) : ∃ cp w', (convert 9 22 (.string s)).run Try.prog w = .ok (.slice (some ⟨w.heap.size, 0, none⟩) s.size cp) w' ∧ (∀ j u, (cs (ints s))[j]? = some u → w'.cell? ((⟨w.heap.size, 0, none⟩ : Addr).add j) = some u) ∧ w.grownBy w' none ∧ w.heap.size < w'.heap.size := by
  refine ⟨_, _, run_bytes_of_string (P := Try.prog) w 9 22 5 s Try.underlying9 Try.underlying22 Try.underlying5, ?_, ?_, ?_⟩
  · intro j u hj
    have hlt : j < s.size := by
      have := (List.getElem?_eq_some_iff.1 hj).1
      rw [cs_length, ints_length] at this
      exact this
    rw [Addr.add_lit, Nat.zero_add]
    rw [cell_of_row _ w.heap.size j _ 5 _ (heap_alloc_new w.drew _)]
    unfold bytesRow
    rw [Array.getElem?_append_left (by rw [Array.size_map]; exact hlt), ← hj]
    unfold cs ints
    simp only [Array.getElem?_map, List.getElem?_map, Array.getElem?_toList, Option.map_map]
    rfl
  · have h := World.grownBy_alloc w.drew (.cells (bytesRow s (grownCap w s.size 0 5)) 5 ((bytesRow s (grownCap w s.size 0 5)).size, (bytesRow s (grownCap w s.size 0 5)).size + 1)) none
    exact ⟨h.os, h.tape, h.output, h.size, h.block⟩
  · simp

set_option maxHeartbeats 400000 in
theorem small5_yes (a : Option Addr) (n0 c0 : Nat) (s : ByteArray) (h : n0 + s.size ≤ 1048576) (w : World) :
    Calls Try.prog 14 #[.slice a n0 c0, .string s] w fun e w' => e = .returned (.bool true) ∧ w' = w := by
  go_enter Try.func14, Try.ntmps14
  go_wp2
  go_ret
  exact ⟨rfl, rfl⟩
set_option maxHeartbeats 400000 in
theorem small5_no (a : Option Addr) (n0 c0 : Nat) (s : ByteArray) (h0 : n0 ≤ maxLen) (h1 : s.size ≤ maxLen) (h : ¬ n0 + s.size ≤ 1048576) (w : World) :
    Calls Try.prog 14 #[.slice a n0 c0, .string s] w fun e w' => e = .returned (.bool false) ∧ w' = w := by
  unfold maxLen at h0 h1
  go_enter Try.func14, Try.ntmps14
  go_wp2
  all_goals go_ret
  all_goals exact ⟨rfl, rfl⟩
set_option maxHeartbeats 400000 in
theorem law5_big (a : Option Addr) (n0 c0 : Nat) (s : ByteArray) (h0 : n0 ≤ maxLen) (h1 : s.size ≤ maxLen) (h : ¬ n0 + s.size ≤ 1048576) (w : World) :
    Calls Try.prog 5 #[.slice a n0 c0, .string s] w fun e w' => e = .returned (.bool true) ∧ w' = w := by
  go_enter Try.func5, Try.ntmps5
  go_wp2_with fail
  refine (small5_no a n0 c0 s h0 h1 h w).mono ?_
  rintro e w' ⟨rfl, rfl⟩
  go_wp2
  go_ret
  exact ⟨rfl, rfl⟩
set_option maxHeartbeats 400000 in
theorem law5_mid (a : Option Addr) (n0 c0 : Nat) (s : ByteArray) (ht : n0 + s.size ≤ 1048576) (h : ¬ n0 ≤ 262144 ∨ (n0 ≤ 262144 ∧ ¬ s.size ≤ 262144)) (w : World) :
    Calls Try.prog 5 #[.slice a n0 c0, .string s] w fun e w' => e = .returned (.bool true) ∧ w' = w := by
  rcases h with h | ⟨h, h'⟩
  all_goals
    go_enter Try.func5, Try.ntmps5
    go_wp2_with fail
    refine (small5_yes a n0 c0 s ht w).mono ?_
    rintro e w' ⟨rfl, rfl⟩
    go_wp2
    go_ret
    exact ⟨rfl, rfl⟩

/-- A row that grew lies in no row that is just as long as it was. -/
theorem not_there {w : World} {B g N cap : Nat} {xs : List Value} {cur : Array Value} (h : w.ownsRow B 5 1 (.slice (some ⟨g, 0, none⟩) N cap) N xs) (hc : w.heap[g]? = some (.cells cur 5)) (hlt : cur.size < N) : False := by
  rcases h.2 with ⟨e, _⟩ | ⟨g', cap', cur', e, _, hg, hn, _, hs, _⟩
  · cases e
  · cases e
    rw [hc] at hg
    cases hg
    omega

theorem run_cut_l (g N cap lo : Nat) (x : Int) (hx : x = (lo : Int)) (h1 : lo ≤ N) (W : World) :
    (Instr.slice 22 (.slice (some ⟨g, 0, none⟩) N cap) (some (.int .i64 x)) none none).run Try.prog W = .ok (.slice (cut g cap lo) (N - lo) (cap - lo)) W := by
  subst hx
  have hsz : (sizeOf (Try.prog.elem 22)).run Try.prog W = .ok 1 W := by kernel_rfl
  rw [run_slice_l W 22 _ N cap (by kernel_rfl) .i64 (lo : Int) (by omega) (by omega), hsz]
  unfold cut
  simp only [Result.andThen_ok, sliced, Int.toNat_natCast, Nat.mul_one, Option.map_some, Addr.add_lit, Nat.zero_add]

set_option maxHeartbeats 1000000 in
theorem law5_small (l0 : List Int) (a : Option Addr) (n0 c0 : Nat) (s : ByteArray) (e0 : Hid (l0.length = n0)) (h0 : n0 ≤ 262144) (h1 : s.size ≤ 262144) (w : World)
    (na : Hid (a = none → l0 = [] ∧ c0 = 0)) (ra : Hid (Bytes w a l0)) :
    Calls Try.prog 5 #[.slice a n0 c0, .string s] w fun e w' => e = .returned (.bool true) ∧ Below w.heap.size w w' := by
  obtain ⟨q, hq⟩ : ∃ q, Hid ((hd 96 s.size).length = q) := ⟨_, rfl⟩
  have hq' : Hid ((hd 64 s.size).length = q) := by rw [← hd_len_eq]; exact hq.out
  have qb : q ≤ 5 := by rw [← hq.out]; exact (hd_length 96 s.size).2
  have qb1 : 1 ≤ q := by rw [← hq.out]; exact (hd_length 96 s.size).1
  go_enter Try.func5, Try.ntmps5
  go_wp2_with fail
  refine (small5_yes a n0 c0 s (by omega) w).mono ?_
  rintro e w' ⟨rfl, rfl⟩
  go_wp2_with fail
  have k0 := clone_own l0 a c0 (by rw [e0.out]; exact h0) w' na.out ra.out
  rw [e0.out] at k0
  refine k0.mono ?_
  clear k0
  rintro e w1 ⟨v1, rfl, o1, g1, _⟩
  have b1 : Hid (Below w'.heap.size w' w1) := below_grown g1 (Nat.le_refl _) (fun _ h => by cases h)
  go_wp2_with fail
  have k1 := clone_own l0 a c0 (by rw [e0.out]; exact h0) w1 na.out (ra.out.below b1.out)
  rw [e0.out] at k1
  refine k1.mono ?_
  clear k1
  rintro e w2 ⟨v2, rfl, o2, g2, hv2⟩
  have O1 : Hid (w2.ownsRow w'.heap.size 5 1 v1 n0 (cs l0)) := kept_none o1 g2
  have O2 : Hid (w2.ownsRow w1.heap.size 5 1 v2 n0 (cs l0)) := o2
  have A21 : Hid (v2.ownBlock = none ∨ v2.ownBlock ≠ v1.ownBlock) := apart o1 o2
  have b2 : Hid (Below w'.heap.size w' w2) := b1.out.trans (below_grown g2 g1.size (fun _ h => by cases h))
  have s2 : w'.heap.size ≤ w2.heap.size := b2.out.size
  have s1 : w'.heap.size ≤ w1.heap.size := g1.size
  have s12 : w1.heap.size ≤ w2.heap.size := g2.size
  have V2 : Hid (∀ g, v2.ownBlock = some g → w2.heap[g]? = some (.cells (cs l0).toArray 5)) := hv2
  clear o1 o2 g1 g2 b1 hv2
  go_wp2_with fail
  refine (text_lies s (by omega) w'.heap.size n0 q hq.out v1 (cs l0) w2 O1.out s2 (by omega)).mono ?_
  rintro e w3 ⟨gx, cx, rfl, o3, gr3⟩
  have OX : Hid (w3.ownsRow w'.heap.size 5 1 (.slice (some ⟨gx, 0, none⟩) (n0 + q + s.size) cx) (n0 + q + s.size) (cs (l0 ++ hd 96 s.size ++ ints s))) := by
    show World.ownsRow _ _ _ _ _ _ _
    simpa only [cs_append, List.append_assoc] using o3
  have O23 : Hid (w3.ownsRow w1.heap.size 5 1 v2 n0 (cs l0)) := O2.out.kept gr3 A21.out
  have AX : Hid (some gx ≠ v2.ownBlock) := fun e => by
    have h2 := V2.out gx e.symm
    have h3 : w3.heap[gx]? = some (.cells (cs l0).toArray 5) := by
      rw [gr3.block gx (O2.out.lt gx e.symm).2 (by rcases A21.out with h | h; (rw [h] at e; cases e); (rw [e]; exact h))]
      exact h2
    refine not_there OX.out h3 ?_
    simp only [List.size_toArray, cs_length, e0.out]
    omega
  have b3 : Hid (Below w'.heap.size w' w3) := b2.out.trans (below_grown gr3 s2 (fun k hk => (O1.out.lt k hk).1))
  have s3 : w'.heap.size ≤ w3.heap.size := b3.out.size
  have s13 : w1.heap.size ≤ w3.heap.size := Nat.le_trans s12 gr3.size
  clear o3 gr3 O1 O2 A21 b2 s2 V2
  obtain ⟨cp, w4, hcv, hcells, gr4, sz4⟩ := conv_bytes s w3
  have b4 : Hid (Below w'.heap.size w' w4) := b3.out.trans (below_grown gr4 s3 (fun _ h => by cases h))
  have O24 : Hid (w4.ownsRow w1.heap.size 5 1 v2 n0 (cs l0)) := kept_none O23.out gr4
  have OX4 : Hid (w4.ownsRow w'.heap.size 5 1 (.slice (some ⟨gx, 0, none⟩) (n0 + q + s.size) cx) (n0 + q + s.size) (cs (l0 ++ hd 96 s.size ++ ints s))) := kept_none OX.out gr4
  have NE : Hid (some w3.heap.size ≠ v2.ownBlock) := fun e => Nat.lt_irrefl _ (O23.out.lt _ e.symm).2
  have HC : Hid (∀ j u, (cs (ints s))[j]? = some u → w4.cell? ((⟨w3.heap.size, 0, none⟩ : Addr).add j) = some u) := hcells
  have s14 : w1.heap.size ≤ w4.heap.size := Nat.le_trans s13 gr4.size
  clear hcells gr4 b3 OX O23
  go_wp2_with fail
  have k2 := bytes_some (ints s) s.size w1.heap.size n0 w3.heap.size cp (ints_length s) (by omega) v2 (cs l0) w4 O24.out s14 (by omega) sz4 NE.out HC.out
  rw [hq'.out] at k2
  refine k2.mono ?_
  clear k2 hcv
  rintro e w5 ⟨gy, cy, he, o5, gr5, at5⟩
  rw [← Nat.add_assoc] at he o5
  subst he
  have OY : Hid (w5.ownsRow w1.heap.size 5 1 (.slice (some ⟨gy, 0, none⟩) (n0 + q + s.size) cy) (n0 + q + s.size) (cs (l0 ++ hd 64 s.size ++ ints s))) := by
    show World.ownsRow _ _ _ _ _ _ _
    simpa only [cs_append, List.append_assoc] using o5
  have OX5 : Hid (w5.ownsRow w'.heap.size 5 1 (.slice (some ⟨gx, 0, none⟩) (n0 + q + s.size) cx) (n0 + q + s.size) (cs (l0 ++ hd 96 s.size ++ ints s))) := OX4.out.kept gr5 (.inr AX.out)
  have b5 : Hid (Below w'.heap.size w' w5) := b4.out.trans (below_grown gr5 (Nat.le_trans s1 s14) (fun k hk => Nat.le_trans s1 (O24.out.lt k hk).1))
  have hcx : n0 + q + s.size ≤ cx := cap_of OX5.out
  have hcy : n0 + q + s.size ≤ cy := cap_of OY.out
  clear o5 gr5 at5 O24 OX4 NE HC s14 b4 AX s13 s12 s1 s3 sz4
  have hsx := run_cut_h gx (n0 + q + s.size) cx n0 (n0 : Int) rfl (by omega)
  have hsy := run_cut_h gy (n0 + q + s.size) cy n0 (n0 : Int) rfl (by omega)
  go_wp2_with fail
  have k5 := same_any l0 (cut gx cx 0) a cx c0 (by rw [e0.out]; unfold maxLen; omega) w5 (bytes_cut (piece_at OX5.out [] l0 (hd 96 s.size ++ ints s) 0 (by simp) rfl) (by rw [e0.out]; omega)) (ra.out.below b5.out)
  rw [e0.out] at k5
  refine k5.mono ?_
  clear k5
  rintro e w6 ⟨rfl, d1, rfl⟩
  go_wp2_with fail
  have k6 := same_any l0 (cut gy cy 0) a cy c0 (by rw [e0.out]; unfold maxLen; omega) (w5.drewN d1) (bytes_cut (piece_at OY.out [] l0 (hd 64 s.size ++ ints s) 0 (by simp) rfl) (by rw [e0.out]; omega)) ((ra.out.below b5.out).drew d1)
  rw [e0.out] at k6
  refine k6.mono ?_
  clear k6 hsx hsy
  rintro e w6 ⟨rfl, d2, rfl⟩
  obtain ⟨f, hf⟩ : ∃ f : Int, Hid (f = inf s.size) := ⟨_, rfl⟩
  have f0 : 0 ≤ f := by rw [hf.out]; exact (inf_bounds s.size).1
  have f1 : f < 32 := by rw [hf.out]; exact (inf_bounds s.size).2
  have llen : Hid (∀ M : Int, (hd M s.size).length = q → (l0 ++ hd M s.size ++ ints s).length = n0 + q + s.size) := fun M hM => by rw [List.length_append, List.length_append, e0.out, hM, ints_length]
  have HX : Hid (∀ i, i < n0 + q + s.size → w5.cell? ⟨gx, i, none⟩ = some (.int .u8 ((l0 ++ hd 96 s.size ++ ints s).getD i 0))) := fun i hi => by
    have := piece_at OX5.out [] (l0 ++ hd 96 s.size ++ ints s) [] 0 (by simp) rfl i (by rw [llen.out 96 hq.out]; exact hi)
    rw [Nat.zero_add] at this
    exact this
  have HY : Hid (∀ i, i < n0 + q + s.size → w5.cell? ⟨gy, i, none⟩ = some (.int .u8 ((l0 ++ hd 64 s.size ++ ints s).getD i 0))) := fun i hi => by
    have := piece_at OY.out [] (l0 ++ hd 64 s.size ++ ints s) [] 0 (by simp) rfl i (by rw [llen.out 64 hq'.out]; exact hi)
    rw [Nat.zero_add] at this
    exact this
  have x0 : w5.cell? ⟨gx, n0, none⟩ = some (.int .u8 (96 + f)) := by
    have := HX.out n0 (by omega)
    rw [← e0.out, row_first, ← hf.out] at this
    rw [← e0.out]
    exact this
  have y0 : w5.cell? ⟨gy, n0, none⟩ = some (.int .u8 (64 + f)) := by
    have := HY.out n0 (by omega)
    rw [← e0.out, row_first, ← hf.out] at this
    rw [← e0.out]
    exact this
  have ax := and_at 96 (.inr rfl) f f0 f1
  have ay := and_at 64 (.inl rfl) f f0 f1
  go_wp2
  go_quiet (fail)
  go_wp2
  clear x0 y0 ax ay
  go_loopw [9] (fun i wr => ∃ (k m : Nat), n0 + 1 ≤ k ∧ k ≤ n0 + q + s.size ∧ i = .int .i64 k ∧ wr = w5.drewN m) (fun i _ => n0 + q + s.size - (intOf i).toNat)
  case atStart => exact ⟨n0 + 1, _, Nat.le_refl _, by omega, by go_num, rfl⟩
  case round =>
    obtain ⟨k, m, hk0, hk, rfl, rfl⟩ := hrel
    by_cases hlt : k < n0 + q + s.size
    · have cx1 := HX.out k hlt
      have cy1 := HY.out k hlt
      rw [← rows_agree l0 (ints s) s.size k (by rw [e0.out]; omega)] at cy1
      obtain ⟨z, hz⟩ : ∃ z : Int, Hid (z = (l0 ++ hd 96 s.size ++ ints s).getD k 0) := ⟨_, rfl⟩
      rw [← hz.out] at cx1 cy1
      go_wp2
      go_quiet (fail)
      go_wp2
      go_roundw
      case rel => exact ⟨k + 1, _, by omega, by omega, by go_num, rfl⟩
      case measure => simp [intOf]; omega
    · have hsl := run_cut_l gx (n0 + q + s.size) cx (n0 + q) ((n0 : Int) + (q : Int)) (by omega) (by omega)
      rw [show n0 + q + s.size - (n0 + q) = s.size by omega] at hsl
      go_wp2_with fail
      have k9 := sameText_any s (cut gx cx (n0 + q)) (cx - (n0 + q)) (by unfold maxLen; omega) (w5.drewN m) (bytes_cut (piece_at OX5.out (l0 ++ hd 96 s.size) (ints s) [] (n0 + q) (by simp) (by rw [List.length_append, e0.out, hq.out])) (by rw [ints_length]; omega))
      refine k9.mono ?_
      clear k9 hsl
      rintro e w6 ⟨rfl, d3, rfl⟩
      go_wp2
      go_ret
      exact ⟨rfl, b5.out.trans ⟨rfl, rfl, rfl, Nat.le_refl _, fun _ _ => rfl⟩⟩

/-- The law, whatever the arguments. -/
theorem law5_any (l0 : List Int) (a : Option Addr) (n0 c0 : Nat) (s : ByteArray) (e0 : l0.length = n0) (h0 : n0 ≤ maxLen) (h1 : s.size ≤ maxLen) (w : World) (na : a = none → l0 = [] ∧ c0 = 0) (ra : Bytes w a l0) :
    Calls Try.prog 5 #[.slice a n0 c0, .string s] w fun e w' => e = .returned (.bool true) ∧ Below w.heap.size w w' := by
  have fin : ∀ (e : Ending) (w' : World), e = .returned (.bool true) ∧ w' = w → e = .returned (.bool true) ∧ Below w.heap.size w w' := fun e w' ⟨h, hw⟩ => ⟨h, by subst hw; exact Below.refl _ _⟩
  by_cases ht : n0 + s.size ≤ 1048576
  · by_cases g0 : n0 ≤ 262144
    · by_cases g1 : s.size ≤ 262144
      · exact law5_small l0 a n0 c0 s e0 g0 g1 w na ra
      · exact (law5_mid a n0 c0 s ht (.inr ⟨g0, g1⟩) w).mono fin
    · exact (law5_mid a n0 c0 s ht (.inl g0) w).mono fin
  · exact (law5_big a n0 c0 s h0 h1 ht w).mono fin
end Go.Proofs.Qxb6612641a
