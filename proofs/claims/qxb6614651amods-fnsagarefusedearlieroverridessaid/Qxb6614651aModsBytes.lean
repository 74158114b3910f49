/-
  THE WALKS of zzCloneBytes (10) and zzSameBytes (15).
-/
import Derived.Test.Qxb6614651aModsRows
import Derived.WalkKit
import Derived.ProofKit
import Derived.WalkSpells
import Derived.WalkLawsBesides
import Derived.Laws.CopyOwn
import Derived.Deep.QuietTactic
import Derived.BigQuiet
namespace Go.Proofs.Qxb6614651aMods.sag
open Go.ChangeShapes Go.WideShapes Go.ChangeAt Go.RowKit
set_option linter.unusedVariables false

theorem hideIt {p : Prop} (h : p) : Hid p := h
theorem info5 : (Trym.prog.info? 5).map (fun i => (i.zero, i.size, i.bytes)) = some (some (.int .u8 0), 1, 1) := by kernel_rfl
theorem block_lt {w : World} {a : Addr} {v : Value} (h : w.cell? a = some v) : a.block < w.heap.size := by
  unfold World.cell? at h
  cases e : w.heap[a.block]? with
  | none => rw [e] at h; simp at h
  | some o => exact (Array.getElem?_eq_some_iff.1 e).1
theorem drawn (w : World) (n : Nat) : Below w.heap.size w (w.drewN n) := below_drewN (Below.refl _ _) n

/-- 'pl' bytes 'z' lie at 'ao' -/
def BytesAt (w : World) (ao : Option Addr) (pl : Nat) (z : Nat → Int) : Prop :=
  0 < pl → ∃ b off, ao = some ⟨b, off, none⟩ ∧ ∀ j, j < pl → w.cell? ⟨b, off + j, none⟩ = some (.int .u8 (z j))
theorem BytesAt.below {w w' : World} {ao : Option Addr} {pl : Nat} {z : Nat → Int} (h : BytesAt w ao pl z) (hb : Below w.heap.size w w') : BytesAt w' ao pl z := by
  intro h0
  obtain ⟨b, off, e, hc⟩ := h h0
  exact ⟨b, off, e, fun j hj => by rw [hb.cell (block_lt (hc j hj))]; exact hc j hj⟩

/-- a slice of bytes as zzSameBytes tells them apart: nil or not, its length, its bytes -/
def PayIs (w : World) (y : Value) (nil : Bool) (pl : Nat) (z : Nat → Int) : Prop :=
  ∃ ao c, y = .slice ao pl c ∧ ao.isNone = nil ∧ BytesAt w ao pl z
theorem PayIs.below {w w' : World} {y : Value} {nil : Bool} {pl : Nat} {z : Nat → Int} (h : PayIs w y nil pl z) (hb : Below w.heap.size w w') : PayIs w' y nil pl z := by
  obtain ⟨ao, c, e, hn, hc⟩ := h
  exact ⟨ao, c, e, hn, hc.below hb⟩

theorem same_any (a b : Option Addr) (pl c1 c2 : Nat) (z : Nat → Int) (w : World) (hpl : pl ≤ maxLen) (hn : a.isNone = b.isNone) (ha : BytesAt w a pl z) (hb : BytesAt w b pl z) :
    Calls Trym.prog 15 #[.slice a pl c1, .slice b pl c2] w fun e w' => e = .returned (.bool true) ∧ ∃ n, w' = w.drewN n := by
  have HA := hideIt ha
  have HB := hideIt hb
  unfold maxLen at hpl
  have n1 := fun w => Lib.run_eql_slice_nil (P := Trym.prog) w 23 5 a pl c1 0 0 Trym.underlying23
  have n2 := fun w => Lib.run_eql_slice_nil (P := Trym.prog) w 23 5 b pl c2 0 0 Trym.underlying23
  rw [hn] at n1
  obtain ⟨t, ht⟩ : ∃ t, Hid (b.isNone = t) := ⟨_, (rfl : b.isNone = b.isNone)⟩
  rw [ht.out] at n1 n2
  clear ha hb hn
  go_enter Trym.func15, Trym.ntmps15
  go_wp2
  go_loopw [5] (fun i wr => ∃ k q : Nat, k ≤ pl ∧ i = .int .i64 k ∧ wr = w.drewN q) (fun i _ => pl - (intOf i).toNat)
  case atStart => exact ⟨0, 0, Nat.zero_le _, rfl, rfl⟩
  case round =>
    obtain ⟨k, q, hk, rfl, rfl⟩ := hrel
    by_cases hlt : k < pl
    · obtain ⟨b1, o1, rfl, h1⟩ := HA.out (by omega)
      obtain ⟨b2, o2, rfl, h2⟩ := HB.out (by omega)
      have e1 := h1 k hlt
      have e2 := h2 k hlt
      have i1 : (k : Int) < (pl : Int) := by omega
      clear h1 h2
      go_wp2
      go_quiet (fail)
      go_wp2
      go_roundw
      case rel => exact ⟨k + 1, q + nq, by omega, by go_num, rfl⟩
      case measure => simp [intOf]; omega
    · go_wp2
      go_ret
      exact ⟨rfl, q, rfl⟩

/-- nil: nil comes back -/
theorem clone_nil (w : World) : Calls Trym.prog 10 #[.slice none 0 0] w fun e w' => e = .returned (.slice none 0 0) ∧ w = w' := by
  have n1 := fun w => Lib.run_eql_slice_nil (P := Trym.prog) w 23 5 none 0 0 0 0 Trym.underlying23
  go_enter Trym.func10, Trym.ntmps10
  go_wp2
  go_ret
  exact ⟨rfl, rfl⟩

/-- the cells of the copy: the first k are the bytes, the rest as 'make' laid them -/
structure CInv (w wr : World) (pl k : Nat) (z : Nat → Int) : Prop where
  done : ∀ j, j < k → wr.cell? ⟨w.heap.size, j, none⟩ = some (.int .u8 (z j))
  there : ∀ j, j < pl → ∃ v, wr.cell? ⟨w.heap.size, j, none⟩ = some v
  free : ∀ j, wr.frozen? ⟨w.heap.size, j, none⟩ = false
  bel : Below w.heap.size w wr

theorem row_made {w : World} {base e g n : Nat} {xs : List Value} (h : w.ownsRow base e 1 (.slice (some ⟨g, 0, none⟩) n n) n xs) : w.heap[g]? = some (.cells xs.toArray e (0, 0)) ∧ xs.length = n := by
  obtain ⟨h1, h2⟩ := h
  refine ⟨?_, by simpa using h1⟩
  rcases h2 with ⟨h', _⟩ | ⟨g', cap, cur, h', _, hg, _, _, hs, ht⟩
  · simp at h'
  · simp only [Value.slice.injEq, Option.some.injEq, Addr.mk.injEq, and_true, true_and] at h'
    obtain ⟨rfl, rfl⟩ := h'
    rw [hg]
    have e1 : cur.toList = xs := by rw [← ht]; exact (List.take_of_length_le (by simp [hs])).symm
    have e2 : cur = xs.toArray := by rw [← e1]
    rw [e2]
theorem cell_in {w : World} {g : Nat} {A : Array Value} {t : TypeId} (h : w.heap[g]? = some (.cells A t (0, 0))) (k : Nat) : w.cell? ⟨g, k, none⟩ = A[k]? := by
  unfold World.cell?
  rw [h]
  rfl
theorem free_in {w : World} {g : Nat} {A : Array Value} {t : TypeId} (h : w.heap[g]? = some (.cells A t (0, 0))) (k : Nat) : w.frozen? ⟨g, k, none⟩ = false := by
  unfold World.frozen?
  rw [h]
  simp

theorem set_same {w : World} {a : Addr} {u v : Value} (h : w.cell? a = some u) : (w.setCell a v).cell? a = some v := by
  apply World.cell?_setCell_same
  exact h
theorem set_off {w : World} {g i j : Nat} {v : Value} (h : i ≠ j) : (w.setCell ⟨g, i, none⟩ v).cell? ⟨g, j, none⟩ = w.cell? ⟨g, j, none⟩ := by
  apply World.cell?_setCell_other
  intro e
  cases e
  exact h rfl
theorem set_block {w : World} {a b : Addr} {v : Value} (h : a.block ≠ b.block) : (w.setCell a v).cell? b = w.cell? b := by
  apply World.cell?_setCell_other
  intro e
  cases e
  exact h rfl

theorem cinv_step {w wr : World} {pl k : Nat} {z : Nat → Int} (h : CInv w wr pl k z) (hk : k < pl) : CInv w (wr.setCell ⟨w.heap.size, k, none⟩ (.int .u8 (z k))) pl (k + 1) z := by
  obtain ⟨v, hv⟩ := h.there k hk
  refine ⟨fun j hj => ?_, fun j hj => ?_, fun j => by rw [World.frozen?_setCell]; exact h.free j, h.bel.setCell (Nat.le_refl _) _⟩
  · by_cases e : j = k
    · subst e; exact set_same hv
    · rw [set_off (fun e' => e e'.symm)]; exact h.done j (by omega)
  · obtain ⟨u, hu⟩ := h.there j hj
    exact cell?_setCell_some hu

theorem clone_some (x : Addr) (pl pc : Nat) (z : Nat → Int) (w : World) (hpl : pl ≤ 1048576) (ha : BytesAt w (some x) pl z) :
    Calls Trym.prog 10 #[.slice (some x) pl pc] w fun e w' => e = .returned (.slice (some ⟨w.heap.size, 0, none⟩) pl pl) ∧ BytesAt w' (some ⟨w.heap.size, 0, none⟩) pl z ∧ Below w.heap.size w w' := by
  have HA := hideIt ha
  clear ha
  have n1 := fun w => Lib.run_eql_slice_nil (P := Trym.prog) w 23 5 (some x) pl pc 0 0 Trym.underlying23
  obtain ⟨i0, hi, hz0, hz1, hz2⟩ := info_parts info5
  go_enter Trym.func10, Trym.ntmps10
  go_wp2_with (first | (at_make; refine wpList_make_full _ rfl _ _ 23 rfl w.heap.size 5 i0 (.int .u8 0) 1 Trym.underlying23 hi hz0 hz1 .i64 .i64 _ _ pl rfl rfl rfl rfl (by rw [hz2]; omega) (by unfold maxLen; omega) (Nat.le_refl _) ?_; intro w1 hown hgrow; have HO := hideIt hown; have HG := hideIt hgrow; clear hown hgrow))
  have HI : Hid (CInv w w1 pl 0 z) := by
    obtain ⟨hg, hl⟩ := row_made HO.out
    exact ⟨fun j hj => absurd hj (by omega), fun j hj => ⟨_, by rw [cell_in hg]; exact Array.getElem?_eq_getElem (by rw [List.size_toArray, hl]; exact hj)⟩, free_in hg, (Below.refl _ _).grown HG.out (Nat.le_refl _) (fun k h => by cases h)⟩
  clear HO HG
  go_loopw [4] (fun i wr => ∃ k : Nat, k ≤ pl ∧ i = .int .i64 k ∧ CInv w wr pl k z) (fun i _ => pl - (intOf i).toNat)
  case atStart => exact ⟨0, Nat.zero_le _, rfl, HI.out⟩
  case round =>
    clear HI
    obtain ⟨k, hk, rfl, hinv⟩ := hrel
    have HI := hideIt hinv
    clear hinv
    by_cases hlt : k < pl
    · obtain ⟨b1, o1, e, h1⟩ := HA.out (by omega)
      cases e
      have e1 : wr.cell? ⟨b1, o1 + k, none⟩ = some (.int .u8 (z k)) := by rw [HI.out.bel.cell (block_lt (h1 k hlt))]; exact h1 k hlt
      obtain ⟨v, e2⟩ := HI.out.there k hlt
      have e3 := HI.out.free k
      clear h1
      go_wp2
      go_roundw
      case rel => exact ⟨k + 1, by omega, by go_num, cinv_step HI.out hlt⟩
      case measure => simp [intOf]; omega
    · go_wp2
      go_ret
      exact ⟨rfl, fun h0 => ⟨_, 0, rfl, fun j hj => by rw [Nat.zero_add]; exact HI.out.done j (by omega)⟩, HI.out.bel⟩

/-- zzCloneBytes: nil stays nil; else a row of its own with the same bytes -/
theorem clone_any (pa : Option Addr) (pl pc : Nat) (z : Nat → Int) (w : World) (hpl : pl ≤ 1048576) (hnil : pa = none → pl = 0 ∧ pc = 0) (ha : BytesAt w pa pl z) :
    Calls Trym.prog 10 #[.slice pa pl pc] w fun e w' => ∃ y, e = .returned y ∧ PayIs w' y pa.isNone pl z ∧ Below w.heap.size w w' := by
  cases pa with
  | none =>
    obtain ⟨rfl, rfl⟩ := hnil rfl
    refine (clone_nil w).mono ?_
    rintro e w' ⟨rfl, rfl⟩
    exact ⟨_, rfl, ⟨none, 0, rfl, rfl, ha⟩, Below.refl _ _⟩
  | some x =>
    refine (clone_some x pl pc z w hpl ha).mono ?_
    rintro e w' ⟨rfl, h1, h2⟩
    exact ⟨_, rfl, ⟨_, pl, rfl, rfl, h1⟩, h2⟩
end Go.Proofs.Qxb6614651aMods.sag
