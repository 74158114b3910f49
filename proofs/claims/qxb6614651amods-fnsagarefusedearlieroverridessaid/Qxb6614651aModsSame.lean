/-
  THE WALKS of zzBranchKept (12) and zzSameBranch (13).
-/
import Derived.Test.Qxb6614651aModsTurn
namespace Go.Proofs.Qxb6614651aMods.sag
open Go.ChangeShapes Go.WideShapes Go.ChangeAt Go.RowKit
set_option linter.unusedVariables false

theorem kept_any (br at_ : Int) (ac st le st2 : ByteArray) (y1 y2 : Option Addr) (pl c1 c2 : Nat) (z : Nat → Int) (w : World) (hpl : pl ≤ maxLen) (hn : y1.isNone = y2.isNone) (h1 : BytesAt w y1 pl z) (h2 : BytesAt w y2 pl z) :
    Calls Trym.prog 12 #[.agg #[.int .i64 br, .string ac, .pointer none, .pointer none, .pointer none, .slice y1 pl c1, .string st, .int .i64 at_, .string le], .agg #[.int .i64 br, .string ac, .slice y2 pl c2, .string st2, .int .i64 at_, .string le]] w
      fun e w' => e = .returned (.bool true) ∧ Below w.heap.size w w' := by
  have HA := hideIt h1
  have HB := hideIt h2
  have HN := hideIt hn
  clear h1 h2 hn
  have hb : Below w.heap.size w ((w.alloc (.cells #[.int .i64 br, .string ac, .pointer none, .pointer none, .pointer none, .slice y1 pl c1, .string st, .int .i64 at_, .string le] 51)).alloc (.cells #[.int .i64 br, .string ac, .slice y2 pl c2, .string st2, .int .i64 at_, .string le] 34)) :=
    ((Below.refl _ _).alloc (Nat.le_refl _) _).alloc (by simp) _
  have HS := hideIt (same_any y1 y2 pl c1 c2 z _ hpl HN.out (HA.out.below hb) (HB.out.below hb))
  have HBB := hideIt hb
  clear hb
  go_enter Trym.func12, Trym.ntmps12
  go_wp2_with (first | (go_at_call 15; refine HS.out.mono ?_; rintro e w' ⟨rfl, nq, rfl⟩))
  go_ret
  exact ⟨rfl, HBB.out.trans (below_drewN (Below.refl _ _) _)⟩

theorem sameb_any (br at_ : Int) (ac st le : ByteArray) (y1 y2 : Option Addr) (pl c1 c2 : Nat) (z : Nat → Int) (w : World) (hpl : pl ≤ maxLen) (hn : y1.isNone = y2.isNone) (h1 : BytesAt w y1 pl z) (h2 : BytesAt w y2 pl z) :
    Calls Trym.prog 13 #[.agg #[.int .i64 br, .string ac, .pointer none, .pointer none, .pointer none, .slice y1 pl c1, .string st, .int .i64 at_, .string le], .agg #[.int .i64 br, .string ac, .pointer none, .pointer none, .pointer none, .slice y2 pl c2, .string st, .int .i64 at_, .string le]] w
      fun e w' => e = .returned (.bool true) ∧ Below w.heap.size w w' := by
  have HA := hideIt h1
  have HB := hideIt h2
  have HN := hideIt hn
  clear h1 h2 hn
  have hb : Below w.heap.size w ((w.alloc (.cells #[.int .i64 br, .string ac, .pointer none, .pointer none, .pointer none, .slice y1 pl c1, .string st, .int .i64 at_, .string le] 51)).alloc (.cells #[.int .i64 br, .string ac, .pointer none, .pointer none, .pointer none, .slice y2 pl c2, .string st, .int .i64 at_, .string le] 51)) :=
    ((Below.refl _ _).alloc (Nat.le_refl _) _).alloc (by simp) _
  have HS := hideIt (same_any y1 y2 pl c1 c2 z _ hpl HN.out (HA.out.below hb) (HB.out.below hb))
  have HBB := hideIt hb
  clear hb
  go_enter Trym.func13, Trym.ntmps13
  go_wp2_with (first | (go_at_call 15; refine HS.out.mono ?_; rintro e w' ⟨rfl, nq, rfl⟩))
  go_ret
  exact ⟨rfl, HBB.out.trans (below_drewN (Below.refl _ _) _)⟩
end Go.Proofs.Qxb6614651aMods.sag
