import Derived.Test.Qxb6612641aReads
import Derived.Deep.AppendLies
import Derived.Deep.RegionLaw
import Derived.Laws.AppendOwnNone
import Derived.Lib.AppendStr
import Derived.Lib.EndianBits
namespace Go.Proofs.Qxb6612641a
open Go Go.RowKit

/-- Bytes as cells. -/
def cs (l : List Int) : List Value := l.map (Value.int .u8)
theorem cs_length (l : List Int) : (cs l).length = l.length := by simp [cs]
theorem cs_append (a b : List Int) : cs (a ++ b) = cs a ++ cs b := by simp [cs]
theorem cs_one (l : List Int) : ∀ u ∈ cs l, u.oneCell' = true := ints_oneCell .u8 l

/-- What an append hands back: a slice that owns the old cells and the new, in the old row or in a row made now; no other old block has turned. -/
def Appended (B : Nat) (w : World) (sv : Value) (n : Nat) (xs : List Value) (m : Nat) (news : List Value) (e : Ending) (w' : World) : Prop :=
  ∃ g cap, e = .returned (.slice (some ⟨g, 0, none⟩) (n + m) cap) ∧ w'.ownsRow B 5 1 (.slice (some ⟨g, 0, none⟩) (n + m) cap) (n + m) (xs ++ news) ∧ w.grownBy w' sv.ownBlock ∧ (sv.ownBlock = some g ∨ w.heap.size ≤ g)

theorem grown_trans {w w1 w2 : World} {r : Option Nat} (h1 : w.grownBy w1 r) (h2 : w1.grownBy w2 r) : w.grownBy w2 r :=
  ⟨h2.os.trans h1.os, h2.tape.trans h1.tape, h2.output.trans h1.output, Nat.le_trans h1.size h2.size, fun k hk hn => (h2.block k (Nat.lt_of_lt_of_le hk h1.size) hn).trans (h1.block k hk hn)⟩
/-- A second append, to what the first handed back. -/
theorem grown_next {w w1 w2 : World} {r r1 : Option Nat} (h1 : w.grownBy w1 r) (h2 : w1.grownBy w2 r1) (hr : r1 = r ∨ ∃ g, r1 = some g ∧ w.heap.size ≤ g) : w.grownBy w2 r :=
  ⟨h2.os.trans h1.os, h2.tape.trans h1.tape, h2.output.trans h1.output, Nat.le_trans h1.size h2.size, fun k hk hn => (h2.block k (Nat.lt_of_lt_of_le hk h1.size) (by
    rcases hr with rfl | ⟨g, rfl, hg⟩
    · exact hn
    · intro e; have := Option.some.inj e; omega)).trans (h1.block k hk hn)⟩

set_option maxHeartbeats 400000 in
theorem au16 (B n v : Nat) (hv : v < 65536) (sv : Value) (xs : List Value) (w : World) (hown : w.ownsRow B 5 1 sv n xs) (hBw : B ≤ w.heap.size) (hlim : n + 2 ≤ 1000000000) :
    Calls Try.prog 16 #[.agg #[], sv, .int .u16 v] w (Appended B w sv n xs 2 (cs [(v : Int) / 256, (v : Int) % 256])) := by
  obtain ⟨i0, hi, hz0, hz1, hz2⟩ := info_parts Try.info5
  go_enter Try.func16, Try.ntmps16
  go_wp2_with (at_builtin; refine wpList_append_lies _ rfl _ _ 22 rfl B 5 i0 (.int .u8 0) 1 1 Try.underlying22 hi hz0 hz1 hz2 rfl (by decide) _ _ _ rfl ((hown.alloc _).alloc _) _ 2 2 (cs [(v : Int) / 256, (v : Int) % 256]) rfl rfl ?c1 ?c2 (by decide) ?c3 ?c4 ?c5 _ rfl ?_)
  case c1 =>
    intro j u hj
    match j, hj with
    | 0, hj => simp [cs] at hj; subst hj; simp [Addr.add]
    | 1, hj => simp [cs] at hj; subst hj; simp [Addr.add]
  case c2 => exact cs_one _
  case c3 => unfold maxLen; omega
  case c4 => omega
  case c5 => simp; omega
  intro g cap w2 hown' hgrow hat hlt
  go_wp2
  go_ret
  refine ⟨g, cap, rfl, hown', grown_trans (grown_trans (World.grownBy_alloc _ _ _) (World.grownBy_alloc _ _ _)) hgrow, ?_⟩
  rcases hat with h | h
  · exact .inl h
  · right; omega

set_option maxHeartbeats 400000 in
theorem au32 (B n v : Nat) (hv : v < 4294967296) (sv : Value) (xs : List Value) (w : World) (hown : w.ownsRow B 5 1 sv n xs) (hBw : B ≤ w.heap.size) (hlim : n + 4 ≤ 1000000000) :
    Calls Try.prog 17 #[.agg #[], sv, .int .u32 v] w (Appended B w sv n xs 4 (cs [(v : Int) / 16777216, (v : Int) / 65536 % 256, (v : Int) / 256 % 256, (v : Int) % 256])) := by
  obtain ⟨i0, hi, hz0, hz1, hz2⟩ := info_parts Try.info5
  go_enter Try.func17, Try.ntmps17
  go_wp2_with (at_builtin; refine wpList_append_lies _ rfl _ _ 22 rfl B 5 i0 (.int .u8 0) 1 1 Try.underlying22 hi hz0 hz1 hz2 rfl (by decide) _ _ _ rfl ((hown.alloc _).alloc _) _ 4 4 (cs [(v : Int) / 16777216, (v : Int) / 65536 % 256, (v : Int) / 256 % 256, (v : Int) % 256]) rfl rfl ?c1 ?c2 (by decide) ?c3 ?c4 ?c5 _ rfl ?_)
  case c1 =>
    intro j u hj
    match j, hj with
    | 0, hj => simp [cs] at hj; subst hj; simp [Addr.add]
    | 1, hj => simp [cs] at hj; subst hj; simp [Addr.add]
    | 2, hj => simp [cs] at hj; subst hj; simp [Addr.add]
    | 3, hj => simp [cs] at hj; subst hj; simp [Addr.add]
  case c2 => exact cs_one _
  case c3 => unfold maxLen; omega
  case c4 => omega
  case c5 => simp; omega
  intro g cap w2 hown' hgrow hat hlt
  go_wp2
  go_ret
  refine ⟨g, cap, rfl, hown', grown_trans (grown_trans (World.grownBy_alloc _ _ _) (World.grownBy_alloc _ _ _)) hgrow, ?_⟩
  rcases hat with h | h
  · exact .inl h
  · right; omega
end Go.Proofs.Qxb6612641a
