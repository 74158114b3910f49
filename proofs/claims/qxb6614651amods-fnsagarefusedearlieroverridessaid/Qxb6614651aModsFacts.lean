/-
  WHAT IS CARRIED FROM CALL TO CALL IN THE LAW; the copy of a reason.
-/
import Derived.Test.Qxb6614651aModsBuild
import Derived.Test.Qxb6614651aModsSizes
namespace Go.Proofs.Qxb6614651aMods.sag
open Go.ChangeShapes Go.WideShapes Go.ChangeAt Go.RowKit
set_option linter.unusedVariables false

/-! ### the statuses -/
theorem turned_one (B : Bs) (Y : Nat → Value) (j n k f : Nat) (hk : k < n) : turned (fields B Y B.st) j REFUSED n k f = fields B Y (statAt B j) k f := by
  unfold turned
  by_cases h : f = 6 ∧ j ≤ k ∧ k < n
  · rw [if_pos h]
    obtain ⟨rfl, h1, h2⟩ := h
    unfold fields statAt
    by_cases e : k = j
    · simp [e]
    · simp [e, show j < k by omega]
  · rw [if_neg h]
    unfold fields statAt
    by_cases e6 : f = 6
    · subst e6
      simp [show ¬ k = j by omega, show ¬ j < k by omega]
    · simp [e6]
theorem turned_two (B : Bs) (Y : Nat → Value) (i j n k f : Nat) (hji : j ≤ i) (hk : k < n) : turned (turned (fields B Y B.st) i REFUSED n) j REFUSED n k f = fields B Y (statAt B j) k f := by
  rw [← turned_one B Y j n k f hk]
  show (if f = 6 ∧ j ≤ k ∧ k < n then (if k = j then Value.string REFUSED else .string SKIPPED) else turned (fields B Y B.st) i REFUSED n k f) = if f = 6 ∧ j ≤ k ∧ k < n then (if k = j then Value.string REFUSED else .string SKIPPED) else fields B Y B.st k f
  by_cases h : f = 6 ∧ j ≤ k ∧ k < n
  · rw [if_pos h, if_pos h]
  · rw [if_neg h, if_neg h]
    unfold turned
    rw [if_neg (by omega)]

/-! ### what stays -/
theorem Rec.only {w w' : World} {r q n r' q' : Nat} {gid st : ByteArray} {rf : Value} {F : Nat → Nat → Value} (h : Rec w r q n gid st rf F) (hn : 0 < n) (ho : Only w w' r' q') (h1 : r ≠ r') (h2 : r ≠ q') (h3 : q ≠ r') (h4 : q ≠ q') : Rec w' r q n gid st rf F := by
  have hr : r < w.heap.size := block_lt h.g
  have hq : q < w.heap.size := block_lt (h.row 0 0 hn (by omega))
  refine ⟨ho.cell h.g h1 h2, ho.cell h.s h1 h2, ho.cell h.f h1 h2, ho.cell h.b h1 h2, fun j => ?_, fun k j hk hj => ho.cell (h.row k j hk hj) h3 h4, fun j => ?_, h.ne⟩
  · rw [World.frozen?_of_block (w := w) (a := ⟨r, j, none⟩) (ho.block r hr h1 h2)]; exact h.fr j
  · rw [World.frozen?_of_block (w := w) (a := ⟨q, j, none⟩) (ho.block q hq h3 h4)]; exact h.fq j

/-- a payload whose bytes lie in blocks that are 'ok' -/
def PayB (w : World) (y : Value) (nil : Bool) (pl : Nat) (z : Nat → Int) (ok : Nat → Prop) : Prop :=
  ∃ ao c, y = .slice ao pl c ∧ ao.isNone = nil ∧ (0 < pl → ∃ b off, ao = some ⟨b, off, none⟩ ∧ ok b ∧ ∀ j, j < pl → w.cell? ⟨b, off + j, none⟩ = some (.int .u8 (z j)))
theorem PayB.is {w : World} {y : Value} {nil : Bool} {pl : Nat} {z : Nat → Int} {ok : Nat → Prop} (h : PayB w y nil pl z ok) : PayIs w y nil pl z := by
  obtain ⟨ao, c, e, hn, hb⟩ := h
  exact ⟨ao, c, e, hn, fun h0 => by obtain ⟨b, off, e2, _, hc⟩ := hb h0; exact ⟨b, off, e2, hc⟩⟩
theorem PayB.only {w w' : World} {y : Value} {nil : Bool} {pl : Nat} {z : Nat → Int} {ok : Nat → Prop} {r q : Nat} (h : PayB w y nil pl z ok) (ho : Only w w' r q) (hr : ∀ g, ok g → g ≠ r ∧ g ≠ q) : PayB w' y nil pl z ok := by
  obtain ⟨ao, c, e, hn, hb⟩ := h
  refine ⟨ao, c, e, hn, fun h0 => ?_⟩
  obtain ⟨b, off, e2, ho2, hc⟩ := hb h0
  exact ⟨b, off, e2, ho2, fun j hj => ho.cell (hc j hj) (hr b ho2).1 (hr b ho2).2⟩
theorem PayAt.bd {w : World} {y : Value} {nil : Bool} {pl : Nat} {z : Nat → Int} {lo : Nat} (h : PayAt w y nil pl z lo) : PayB w y nil pl z (fun g => lo ≤ g ∧ g < w.heap.size) := by
  obtain ⟨ao, c, e, hn, hb, hl⟩ := h
  refine ⟨ao, c, e, hn, fun h0 => ?_⟩
  obtain ⟨b, off, e2, hc⟩ := hb h0
  exact ⟨b, off, e2, ⟨hl _ e2, block_lt (hc 0 h0)⟩, hc⟩
theorem RAt.below {w w' : World} {ao : Option Addr} {pl : Nat} {z : Nat → Int} (h : RAt w ao pl z) (hb : Below w.heap.size w w') : RAt w' ao pl z := by
  rcases h with h | ⟨b, off, e, hc⟩
  · exact Or.inl h
  · exact Or.inr ⟨b, off, e, fun j hj => by rw [hb.cell (block_lt (hc j hj))]; exact hc j hj⟩
theorem Came.below {w w' : World} {ba : Option Addr} {n : Nat} {B : Bs} (h : Came w ba n B) (hb : Below w.heap.size w w') : Came w' ba n B :=
  ⟨fun h0 => by obtain ⟨b, off, e, hi⟩ := h.at_ h0; exact ⟨b, off, e, hi.below hb⟩, h.len, h.ac, h.pl, h.st, h.le⟩

/-! ### the copy of a reason -/
theorem copied {w0 w1 : World} {n cap : Nat} {x : Addr} {Z : List Value} {z : Nat → Int}
    (hown : w1.ownsRow w0.heap.size 5 1 (.slice (some ⟨w0.heap.size, 0, none⟩) n n) n Z) (hgrow : w0.grownBy w1 none) (hg : BytesAt w0 (some x) n z) :
    ∃ w2, (Builtin.copy_ #[23, 23] 3 #[.slice (some ⟨w0.heap.size, 0, none⟩) n n, .slice (some x) n cap]).run Trym.prog w1 = .ok (.int .i64 n) w2 ∧
      RAt w2 (some ⟨w0.heap.size, 0, none⟩) n z ∧ Below w0.heap.size w0 w2 := by
  obtain ⟨i0, hi, hz0, hz1, hz2⟩ := info_parts info5
  obtain ⟨X, hX⟩ : ∃ X : List Value, X = (List.range n).map (fun k => Value.int .u8 (z k)) := ⟨_, rfl⟩
  have hXl : X.length = n := by rw [hX]; simp
  have hXk : ∀ k, k < n → X[k]? = some (.int .u8 (z k)) := by intro k hk; rw [hX]; simp [hk]
  have hsrc : ∀ j v, X[j]? = some v → w0.cell? (x.add j) = some v := by
    intro j v hj
    have hlt : j < n := by have := (List.getElem?_eq_some_iff.1 hj).1; omega
    obtain ⟨b, off, e, hc⟩ := hg (by omega)
    cases e
    rw [hXk j hlt] at hj
    cases hj
    rw [add_plain]
    exact hc j hlt
  have h1 : ∀ v ∈ X, v.oneCell' = true := by
    intro v hv
    rw [hX] at hv
    obtain ⟨a, _, rfl⟩ := List.mem_map.1 hv
    rfl
  obtain ⟨hgz, hZ⟩ := row_made hown
  have hb : Below w0.heap.size w0 w1 := (Below.refl _ _).grown hgrow (Nat.le_refl _) (fun k h => by cases h)
  have hrun := run_copy_row (P := Trym.prog) w1 23 23 3 5 w0.heap.size 0 n n x n cap Z.toArray 5 X Trym.underlying23 (by rw [hi]; simp [hz1]) hgz (by simp [hXl])
    (fun j v hj => by rw [hb.cell (block_lt (hsrc j v hj))]; exact hsrc j v hj) (by simp [hXl, hZ]) h1
  have e : (Z.toArray.toList.take 0 ++ X ++ Z.toArray.toList.drop (0 + X.length)) = X := by
    simp [hXl, ← hZ]
  rw [e] at hrun
  refine ⟨_, ?_, Or.inr ⟨w0.heap.size, 0, rfl, fun k hk => ?_⟩, below_setRow hb (Nat.le_refl _) X.toArray⟩
  · rw [hrun, hXl]; rfl
  · rw [Nat.zero_add, cell_in (setRow_heap w1 w0.heap.size _ X.toArray 5 (0, 0) hgz)]
    simpa using hXk k hk
end Go.Proofs.Qxb6614651aMods.sag
