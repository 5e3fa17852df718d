/-
  AppendBytes and AppendText: contracts.
-/
import Derived.Test.Qxb6612641aHead
namespace Go.Proofs.Qxb6612641a
open Go Go.RowKit

theorem grown_refl (w : World) (r : Option Nat) : w.grownBy w r := World.grownBy.refl w r

/-- A second append's value, opened. -/
theorem appended_more {B : Nat} {w w2 w3 : World} {sv v' : Value} {n m1 m2 : Nat} {xs a b : List Value} {g : Nat} (hgrow : w.grownBy w2 sv.ownBlock) (hat : sv.ownBlock = some g ∨ w.heap.size ≤ g)
    (hown3 : w3.ownsRow B 5 1 v' (n + m1 + m2) (xs ++ a ++ b)) (hpos : 1 ≤ m1) (hgrow3 : w2.grownBy w3 (some g)) (hat3 : v'.ownBlock = some g ∨ v'.ownBlock = some w2.heap.size) :
    Appended B w sv n xs (m1 + m2) (a ++ b) (.returned v') w3 := by
  obtain ⟨g3, cap3, rfl, _, _⟩ := hown3.form (by omega)
  refine appended_two hgrow hat hown3 hgrow3 ?_ rfl rfl
  rcases hat3 with h | h
  · exact .inl h.symm
  · exact .inr (Nat.le_of_eq (Option.some.inj h).symm)

set_option maxHeartbeats 400000 in
theorem bytes_some (ps : List Int) (mp B n gp cp : Nat) (hmp : Hid (ps.length = mp)) (hp : mp ≤ 1048576) (sv : Value) (xs : List Value) (w : World) (hown : w.ownsRow B 5 1 sv n xs) (hBw : B ≤ w.heap.size) (hlim : n ≤ 10000000)
    (hgp : gp < w.heap.size) (hne : some gp ≠ sv.ownBlock) (hcell : ∀ j u, (cs ps)[j]? = some u → w.cell? ((⟨gp, 0, none⟩ : Addr).add j) = some u) :
    Calls Try.prog 8 #[sv, .slice (some ⟨gp, 0, none⟩) mp cp] w (Appended B w sv n xs ((hd 64 mp).length + mp) (cs (hd 64 mp) ++ cs ps)) := by
  obtain ⟨i0, hi, hz0, hz1, hz2⟩ := info_parts Try.info5
  have hh := hd_length 64 mp
  go_enter Try.func8, Try.ntmps8
  go_wp2_with fail
  refine (head_any 64 (.inl rfl) B n mp (by omega) sv xs w hown hBw (by omega)).mono ?_
  rintro e w1 ⟨g, cap, rfl, hown1, hgrow, hat⟩
  have hcell1 : ∀ j u, (cs ps)[j]? = some u → w1.cell? ((⟨gp, 0, none⟩ : Addr).add j) = some u := fun j u hj => by
    have h := hcell j u hj
    have hb : ((⟨gp, 0, none⟩ : Addr).add j).block = gp := by unfold Addr.add; split <;> simp_all
    rw [hgrow.cell_far _ (by rw [hb]; exact hgp) (by rw [hb]; exact hne)]
    exact h
  have HC := hcell1
  clear hcell
  go_wp2_with (at_builtin; refine wpList_append_own_at _ rfl _ _ 22 rfl B 5 i0 (.int .u8 0) 1 1 Try.underlying22 hi hz0 hz1 hz2 rfl (by decide) _ _ _ rfl hown1 ⟨gp, 0, none⟩ mp cp (cs ps) rfl ?c0 HC (cs_one _) ?c1 ?c2 ?c3 ?_)
  case c0 => rw [cs_length, Nat.mul_one]; exact hmp.out
  case c1 => unfold maxLen; omega
  case c2 => omega
  case c3 => exact Nat.le_trans hBw hgrow.size
  intro v' w2 hown2 hgrow2 _ hat2
  go_wp2
  go_ret
  rw [← List.append_assoc] at hown2
  exact appended_more (v' := v') hgrow hat hown2 hh.1 hgrow2 hat2

set_option maxHeartbeats 400000 in
theorem bytes_none (B n : Nat) (sv : Value) (xs : List Value) (w : World) (hown : w.ownsRow B 5 1 sv n xs) (hBw : B ≤ w.heap.size) (hlim : n ≤ 10000000) :
    Calls Try.prog 8 #[sv, .slice none 0 0] w (Appended B w sv n xs (hd 64 0).length (cs (hd 64 0))) := by
  obtain ⟨i0, hi, hz0, hz1, hz2⟩ := info_parts Try.info5
  go_enter Try.func8, Try.ntmps8
  go_wp2_with fail
  refine (head_any 64 (.inl rfl) B n 0 (by omega) sv xs w hown hBw (by omega)).mono ?_
  rintro e w1 ⟨g, cap, rfl, hown1, hgrow, hat⟩
  go_wp2_with (at_builtin; refine wpList_append_own_none rfl _ _ 22 rfl B 5 i0 1 Try.underlying22 hi _ _ _ rfl hown1 rfl ?_)
  go_wp2
  go_ret
  exact ⟨g, cap, rfl, hown1, hgrow, hat⟩

set_option maxHeartbeats 400000 in
theorem text_any (s : ByteArray) (hs : s.size ≤ 1048576) (B n : Nat) (sv : Value) (xs : List Value) (w : World) (hown : w.ownsRow B 5 1 sv n xs) (hBw : B ≤ w.heap.size) (hlim : n ≤ 10000000) :
    Calls Try.prog 12 #[sv, .string s] w fun e w' => ∃ v', e = .returned v' ∧ w'.ownsRow B 5 1 v' (n + (hd 96 s.size).length + s.size) (xs ++ cs (hd 96 s.size) ++ cs (ints s)) ∧ w.grownBy w' sv.ownBlock := by
  obtain ⟨i0, hi, hz0, hz1, hz2⟩ := info_parts Try.info5
  have hh := hd_length 96 s.size
  have es : Lib.strCells s = cs (ints s) := by
    unfold Lib.strCells cs ints
    rw [List.map_map]
    rfl
  go_enter Try.func12, Try.ntmps12
  go_wp2_with fail
  refine (head_any 96 (.inr rfl) B n s.size (by omega) sv xs w hown hBw (by omega)).mono ?_
  rintro e w1 ⟨g, cap, rfl, hown1, hgrow, hat⟩
  go_wp2_with (at_builtin; refine Lib.wpList_append_own_string _ rfl _ _ 22 9 rfl B 5 i0 Try.underlying22 Try.underlying9 hi hz0 hz1 hz2 _ _ _ rfl hown1 s rfl ?c1 ?c2 ?c3 ?_)
  case c1 => unfold maxLen; omega
  case c2 => omega
  case c3 => exact Nat.le_trans hBw hgrow.size
  intro v' w2 hown2 hgrow2 _
  go_wp2
  go_ret
  rw [← List.append_assoc] at hown2
  refine ⟨v', rfl, hown2, grown_next hgrow hgrow2 ?_⟩
  rcases hat with h | h
  · exact .inl h.symm
  · exact .inr ⟨g, rfl, h⟩
end Go.Proofs.Qxb6612641a
