/-
  The second law's row and its tied card.
-/
import Derived.Test.Qxb6609569aDoorCards
import Derived.Test.Qxb6609569aDoorTie
import Derived.Test.Qxb6609569aDoorLaw4
import Derived.ProofKit
import Derived.LaidMore
import Derived.OpenShut
import Derived.Stop.Joined
import Derived.SevenTiedAt
namespace Go.Proofs.Qxb6609569aDoor
open Go Go.ChangeShapes Go.WideShapes Go.ChangeAt Go.RowKit

theorem own : ownKnob Tryd.prog.godebug = none := by kernel_rfl
theorem gPow : Tryd.prog.globalNamed powName = some 0 := by kernel_rfl
theorem tPow : (Tryd.prog.globals[0]?).map (·.type) = some 40 := by kernel_rfl

/-- The door's own heap meets the condition. -/
theorem door_met4 (os : Os) (args : Array Value) : laidMetH Tryd.prog Rows.fnRetryAfterWholeSecondBoundariesRow.laid ((World.doorLaid Tryd.prog 400 os).forCall (fun _ _ => 0) ⟨#[], args, []⟩).memory :=
  laidMetH_of_parts3 (fuel := 8) (laidMet_of_run' 8 (by kernel_rfl) (by kernel_rfl)) (by kernel_rfl) (by kernel_rfl)

theorem pow_data : (Rows.laid_internal_strconv_uint64pow10 : DataW Unit) = Lib.tabData .u64 Lib.pow10Tab := by kernel_rfl

/-- What the condition gives the walk: the table of powers of ten. -/
theorem tab_of_laid {W : World} (h : laidMet Tryd.prog Rows.fnRetryAfterWholeSecondBoundariesRow.laid W) :
    Lib.TabIs Tryd.prog W powName .u64 Lib.pow10Tab := by
  obtain ⟨ps, ⟨g0, t0, cs0, f0, p0, q0, _, _, _, _, ⟨g1, t1, cs1, f1, p1, q1, _, _, _, _, ⟨g2, t2, cs2, f2, p2, q2, hg, ht, hv, hd, _, _⟩, _⟩, _⟩, _, _⟩ := h
  obtain rfl := Option.some.inj (gPow.symm.trans hg)
  obtain rfl := Option.some.inj (tPow.symm.trans ht)
  rw [pow_data] at hd
  unfold Lib.TabIs
  have hv' : W.var? Tryd.prog powName = some cs2 := hv
  rw [hv', ← Lib.cells_of_tab Tryd.underlying40 Tryd.underlying33 (by kernel_rfl) (by kernel_rfl) hd]

set_option maxRecDepth 100000 in
theorem lifted4 (os : Os) (started : os.Started) (H : Type) (enc : TypeId × Value → H) :
    ReturnsInHanded {} Tryd.checked os 4 .any (fun w args => (Rows.fnRetryAfterWholeSecondBoundariesSpec.pre enc Tryd.prog Tryd.f4 [] false w args ∧ laidMetH Tryd.prog Rows.fnRetryAfterWholeSecondBoundariesRow.laid w) ∧ sizedMet enc Tryd.prog Tryd.f4 (OpenSpec.ofChange Rows.fnRetryAfterWholeSecondBoundariesSpec) false w args)
      (Rows.fnRetryAfterWholeSecondBoundariesSpec.post enc Tryd.prog Tryd.f4 false true false false) := by
  refine returnsInHanded_of_change_and (C := Tryd.checked) (X := fun w _ => laidMetH Tryd.prog Rows.fnRetryAfterWholeSecondBoundariesRow.laid w) (fun _ _ _ hh h => h.of_heap hh) own started (by kernel_rfl) Tryd.func4
    (ChangeSpec.witness_shaped (enc := enc) (C := Tryd.checked) (os := os) (X := fun w _ => laidMetH Tryd.prog Rows.fnRetryAfterWholeSecondBoundariesRow.laid w) false (World.doorLaid Tryd.prog 400 os) #[.int .i64 0] 8 rfl (World.shaped_of_RefB (by kernel_rfl) (by kernel_rfl)) (by kernel_rfl) (by kernel_rfl) (by kernel_rfl) (door_met4 os _)) ?_
  intro W base args ds gs before hval0 hW _ _ hL _
  have hval : ∀ (j : Nat) t v, Tryd.f4.params[j]? = some t → args[j]? = some v → Value.okWide Tryd.prog W .any base t v := hval0
  have hW' := hW
  obtain ⟨p, q, hA0, hV, rfl, hfz, hnd⟩ := hW
  have hA : DataW.TrodAll enc Tryd.prog W 0 (fun _ => true) true Tryd.f4.params.toList args.toList ds p := hA0
  rw [Tryd.params4] at hA hval
  obtain ⟨v0, d0, rfl, rfl, h0⟩ := trodAll_one hA
  obtain ⟨rfl, rfl⟩ := trodVars_none hV
  obtain ⟨x, rfl, rfl, rfl, wx⟩ := open_int Tryd.underlying2 (hval 0 2 v0 rfl rfl) h0
  rw [MakeChecks.laidMetH_plain _ _ _ (by kernel_rfl)] at hL
  have htab := tab_of_laid hL
  clear hA0 hval0
  refine (law4_any x W htab).mono fun e W' ⟨he, bel⟩ => ?_
  subst he
  exact ⟨_, rfl, _, _, _, [], [], [], hW', trodAll_mk1 (shut_bool Tryd.underlying4 _), trodAll_mk1 (shut_int Tryd.underlying2 wx), rfl, bel.frame _, fun h => by cases h⟩

theorem row4_holds : Rows.FnRetryAfterWholeSecondBoundariesSaid :=
  OpenClaim.holds_of_wide 4 Tryd.f4 rfl rfl rfl rfl rfl rfl rfl ⟨rfl, rfl, rfl, rfl, rfl⟩ rfl rfl rfl rfl rfl (by kernel_rfl) Tryd.func4 (by kernel_rfl)
    (of_decide_eq_true (by kernel_rfl)) (by unfold Func.isWrapper; first | (rw [if_pos (by decide +kernel)]; kernel_rfl) | (rw [if_neg (by decide +kernel)]; exact ⟨rfl, rfl⟩))
    (fun os started H enc _ => lifted4 os started H enc)

/-- THE STATEMENT: the tied card. -/
theorem retryAfterWholeSecondBoundaries_card : Rows.FnRetryAfterWholeSecondBoundariesCardSaid :=
  Claim7.holds_tied_plain_at .later [] [.data, .data, .data] true (true, "dc604d7fe7d4ceb3941345f8a482c9b5fb6c7ffddcfd473629059bb6f50326aa") false
    row4_holds (fun _ h => by cases h) (by kernel_rfl) (fun _ h => by cases h) fnRetryAfterWholeSecondBoundaries_row_tie rfl ⟨rfl, rfl⟩ (by kernel_rfl) rfl
    (fun f fn hf hfn => by
      obtain rfl : f = 4 := Option.some.inj ((show Tryd.prog.funcNamed Rows.fnRetryAfterWholeSecondBoundariesRow.func = some 4 by kernel_rfl).symm.trans hf) |>.symm
      obtain rfl : fn = Tryd.f4 := (Option.some.inj (Tryd.func4.symm.trans hfn)).symm
      exact ⟨by kernel_rfl, fun j t ht => by
        rw [Tryd.params4] at ht
        have hm : t ∈ [2] := by simpa using Array.mem_of_getElem? ht
        have hall : ([2].all fun u => !Tryd.prog.wantsStandIn u) = true := by kernel_rfl
        exact (show Tryd.prog.wantsStandIn t = false by simpa using List.all_eq_true.1 hall t hm)⟩)
    (by kernel_rfl)
end Go.Proofs.Qxb6609569aDoor
