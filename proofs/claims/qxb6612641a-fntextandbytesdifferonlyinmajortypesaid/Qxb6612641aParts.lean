/-
  What the laws share: clones that are owned; AppendBytes of an owned slice; the bounds' tests; pieces of an owned row.
-/
import Derived.Test.Qxb6612641aItems
import Derived.Test.Qxb6612641aItem
namespace Go.Proofs.Qxb6612641a
open Go Go.RowKit

/-! ### Frames -/
theorem below_grown {w w' : World} {B : Nat} {r : Option Nat} (h : w.grownBy w' r) (hB : B ≤ w.heap.size) (hr : ∀ k, r = some k → B ≤ k) : Below B w w' :=
  (Below.refl B w).grown h hB hr
theorem grown_of_alloc (w : World) (o : Obj) : w.grownBy (w.alloc o) none := World.grownBy_alloc w o none

/-- A slice that came in reads as it did, where nothing below has turned. -/
theorem Bytes.below {w w' : World} {a : Option Addr} {l : List Int} (h : Bytes w a l) (hb : Below w.heap.size w w') : Bytes w' a l := by
  rcases h with h | ⟨b, o, ha, hc⟩
  · exact .inl h
  · by_cases h0 : l.length = 0
    · exact .inl (List.eq_nil_of_length_eq_zero h0)
    · have hlt : b < w.heap.size := by
        have := hc 0 (by omega)
        rcases Nat.lt_or_ge b w.heap.size with hlt | hge
        · exact hlt
        · simp [World.cell?, Array.getElem?_eq_none hge] at this
      exact .inr ⟨b, o, ha, fun i hi => by rw [hb.cell (p := ⟨b, o + i, none⟩) hlt]; exact hc i hi⟩
theorem Bytes.drew {w : World} {a : Option Addr} {l : List Int} (h : Bytes w a l) (k : Nat) : Bytes (w.drewN k) a l := h

/-! ### A clone, as an owned row -/
theorem clone_own (l : List Int) (a : Option Addr) (c : Nat) (hl : l.length ≤ 262144) (w : World) (hnil : a = none → l = [] ∧ c = 0) (h : Bytes w a l) :
    Calls Try.prog 7 #[.slice a l.length c] w fun e w' => ∃ v, e = .returned v ∧ w'.ownsRow w.heap.size 5 1 v l.length (cs l) ∧ w.grownBy w' none ∧ (∀ g, v.ownBlock = some g → w'.heap[g]? = some (.cells (cs l).toArray 5)) := by
  refine (clone_any l a c hl w hnil h).mono ?_
  rintro e w' (⟨ha, rfl, rfl⟩ | ⟨rfl, rfl⟩)
  · obtain ⟨rfl, _⟩ := hnil ha
    exact ⟨_, rfl, World.ownsRow_nil _ _ _ _, World.grownBy.refl _ _, fun g hg => by cases hg⟩
  · refine ⟨_, rfl, ?_, grown_of_alloc _ _, fun g hg => ?_⟩
    · have := World.ownsRow_lit (base := w.heap.size) (e := 5) (size := 1) w (cs l).toArray l.length (Nat.le_refl _) (by unfold maxLen; omega) (by simp [cs_length])
      exact this
    · have e : g = w.heap.size := (Option.some.inj hg).symm
      subst e
      exact heap_alloc_new w _

/-! ### AppendBytes of a row that the call owns -/
theorem bytes_any (ps : List Int) (pv : Value) (Bp B n : Nat) (hp : ps.length ≤ 262144) (sv : Value) (xs : List Value) (w : World) (hown : w.ownsRow B 5 1 sv n xs) (hBw : B ≤ w.heap.size) (hlim : n ≤ 10000000)
    (hpo : w.ownsRow Bp 5 1 pv ps.length (cs ps)) (hne : pv.ownBlock = none ∨ pv.ownBlock ≠ sv.ownBlock) :
    Calls Try.prog 8 #[sv, pv] w (Appended B w sv n xs ((hd 64 ps.length).length + ps.length) (cs (hd 64 ps.length) ++ cs ps)) := by
  rcases hpo.2 with ⟨rfl, h0⟩ | ⟨g, cap, cur, rfl, _, hg, _⟩
  · have : ps = [] := List.eq_nil_of_length_eq_zero h0
    subst this
    have := bytes_none B n sv xs w hown hBw hlim
    simpa [cs] using this
  · have hlt := (hpo.lt g rfl).2
    refine bytes_some ps ps.length B n g cap rfl (by omega) sv xs w hown hBw hlim hlt ?_ (hpo.cells rfl)
    rcases hne with h | h
    · cases h
    · exact h

/-! ### Pieces of an owned row -/
theorem piece {W : World} {B g N cap : Nat} {pre mid post : List Int} (hown : W.ownsRow B 5 1 (.slice (some ⟨g, 0, none⟩) N cap) N (cs (pre ++ mid ++ post))) :
    ∀ j, j < mid.length → W.cell? ⟨g, pre.length + j, none⟩ = some (.int .u8 (mid.getD j 0)) := fun j hj => by
  have hlen := hown.1
  rw [cs_length, List.length_append, List.length_append, Nat.mul_one] at hlen
  rw [hown.cellAt (pre.length + j) (by omega)]
  unfold cs
  rw [List.getElem?_map, List.getElem?_append_left (by rw [List.length_append]; omega), List.getElem?_append_right (by omega), Nat.add_sub_cancel_left, List.getElem?_eq_getElem hj, List.getD_eq_getElem?_getD, List.getElem?_eq_getElem hj]
  rfl

theorem piece_at {W : World} {B g N cap : Nat} {L : List Int} (hown : W.ownsRow B 5 1 (.slice (some ⟨g, 0, none⟩) N cap) N (cs L)) (pre mid post : List Int) (n : Nat) (hL : L = pre ++ mid ++ post) (hn : pre.length = n) :
    ∀ j, j < mid.length → W.cell? ⟨g, n + j, none⟩ = some (.int .u8 (mid.getD j 0)) := by
  subst hL hn
  exact piece hown

/-- Where 'c[lo:hi]' begins (at the capacity's end Go leaves the pointer at the array's head). -/
def cut (g cap lo : Nat) : Option Addr := if cap = lo then some ⟨g, 0, none⟩ else some ⟨g, lo, none⟩

theorem bytes_cut {W : World} {g cap lo : Nat} {l : List Int} (h : ∀ j, j < l.length → W.cell? ⟨g, lo + j, none⟩ = some (.int .u8 (l.getD j 0))) (hcap : lo + l.length ≤ cap) : Bytes W (cut g cap lo) l := by
  by_cases h0 : l.length = 0
  · exact .inl (List.eq_nil_of_length_eq_zero h0)
  · right
    unfold cut
    rw [if_neg (by omega)]
    exact ⟨g, lo, rfl, h⟩

theorem run_cut (g N cap lo hi : Nat) (x y : Int) (hx : x = (lo : Int)) (hy : y = (hi : Int)) (h1 : lo ≤ hi) (h2 : hi ≤ cap) (W : World) :
    (Instr.slice 22 (.slice (some ⟨g, 0, none⟩) N cap) (some (.int .i64 x)) (some (.int .i64 y)) none).run Try.prog W = .ok (.slice (cut g cap lo) (hi - lo) (cap - lo)) W := by
  subst hx hy
  have hsz : (sizeOf (Try.prog.elem 22)).run Try.prog W = .ok 1 W := by kernel_rfl
  rw [run_slice_lh W 22 _ N cap (by kernel_rfl) .i64 .i64 (lo : Int) (hi : Int) (by omega) (by omega) (by omega), hsz]
  unfold cut
  simp only [Result.andThen_ok, sliced, Int.toNat_natCast, Nat.mul_one, Option.map_some, Addr.add_lit, Nat.zero_add]
theorem run_cut_h (g N cap hi : Nat) (y : Int) (hy : y = (hi : Int)) (h2 : hi ≤ cap) (W : World) :
    (Instr.slice 22 (.slice (some ⟨g, 0, none⟩) N cap) none (some (.int .i64 y)) none).run Try.prog W = .ok (.slice (cut g cap 0) hi cap) W := by
  subst hy
  have hsz : (sizeOf (Try.prog.elem 22)).run Try.prog W = .ok 1 W := by kernel_rfl
  rw [run_slice_h W 22 _ N cap (by kernel_rfl) .i64 (hi : Int) (by omega) (by omega), hsz]
  unfold cut
  simp only [Result.andThen_ok, sliced, Int.toNat_natCast, Nat.zero_mul, Option.map_some, Addr.add_lit, Nat.add_zero, Nat.sub_zero]

theorem kept_none {w w' : World} {B : Nat} {v : Value} {n : Nat} {xs : List Value} (h : w.ownsRow B 5 1 v n xs) (hg : w.grownBy w' none) : w'.ownsRow B 5 1 v n xs :=
  h.kept hg (by cases hv : v.ownBlock with
    | none => exact .inl rfl
    | some k => exact .inr (by intro e; cases e))
/-- A row that was made later lies elsewhere. -/
theorem apart {w1 w2 : World} {B1 : Nat} {v1 v2 : Value} {n1 n2 : Nat} {xs1 xs2 : List Value} (o1 : w1.ownsRow B1 5 1 v1 n1 xs1) (o2 : w2.ownsRow w1.heap.size 5 1 v2 n2 xs2) : v2.ownBlock = none ∨ v2.ownBlock ≠ v1.ownBlock := by
  cases h2 : v2.ownBlock with
  | none => exact .inl rfl
  | some k2 =>
    right
    intro e
    have := (o1.lt k2 e.symm).2
    have := (o2.lt k2 h2).1
    omega
theorem ne_none {v : Value} {k : Option Nat} (h : v.ownBlock = none ∨ v.ownBlock ≠ k) : v.ownBlock = none ∨ v.ownBlock ≠ k := h

/-- Two AppendBytes in a row, of rows that the call owns: what c owns in the end. -/
theorem owns_all {W : World} {B g N cap : Nat} {l0 l1 l2 h1 h2 : List Int} (h : W.ownsRow B 5 1 (.slice (some ⟨g, 0, none⟩) N cap) N (cs l0 ++ (cs h1 ++ cs l1) ++ (cs h2 ++ cs l2))) :
    W.ownsRow B 5 1 (.slice (some ⟨g, 0, none⟩) N cap) N (cs (l0 ++ h1 ++ l1 ++ h2 ++ l2)) := by
  simpa only [cs_append, List.append_assoc] using h
theorem cap_of {W : World} {B g N cap : Nat} {xs : List Value} (h : W.ownsRow B 5 1 (.slice (some ⟨g, 0, none⟩) N cap) N xs) : N ≤ cap := by
  rcases h.2 with ⟨e, _⟩ | ⟨g', cap', cur, e, _, _, hc, _⟩
  · cases e
  · cases e; exact hc

/-! ### The bounds' test -/
set_option maxHeartbeats 400000 in
theorem small_yes (a b c : Option Addr) (n0 n1 n2 c0 c1 c2 : Nat) (h : n0 + n1 + n2 ≤ 1048576) (w : World) :
    Calls Try.prog 6 #[.slice a n0 c0, .slice b n1 c1, .slice c n2 c2] w fun e w' => e = .returned (.bool true) ∧ w' = w := by
  go_enter Try.func6, Try.ntmps6
  go_wp2
  go_ret
  exact ⟨rfl, rfl⟩
set_option maxHeartbeats 400000 in
theorem small_no (a b c : Option Addr) (n0 n1 n2 c0 c1 c2 : Nat) (h0 : n0 ≤ maxLen) (h1 : n1 ≤ maxLen) (h2 : n2 ≤ maxLen) (h : ¬ n0 + n1 + n2 ≤ 1048576) (w : World) :
    Calls Try.prog 6 #[.slice a n0 c0, .slice b n1 c1, .slice c n2 c2] w fun e w' => e = .returned (.bool false) ∧ w' = w := by
  unfold maxLen at h0 h1 h2
  go_enter Try.func6, Try.ntmps6
  go_wp2
  all_goals go_ret
  all_goals exact ⟨rfl, rfl⟩
end Go.Proofs.Qxb6612641a
