/-
  THE WALK of the law itself (function 3).
-/
import Derived.Test.Qxb6617839aModsCont
import Derived.OpenShut
import Derived.Below
import Derived.Laws.CopyOwn
namespace Go.Proofs.Qxb6617839aMods.cms
open Go.ChangeShapes Go.WideShapes Go.ChangeAt Go.RowKit
set_option linter.unusedVariables false

def IsRow (k : IntKind) (w : World) (a : Option Addr) (len cap : Nat) (zs : List Int) : Prop :=
  (a = none ∧ len = 0 ∧ cap = 0 ∧ zs = []) ∨
  ∃ x, a = some x ∧ len ≤ cap ∧ cap ≤ maxLen ∧ zs.length = cap ∧ (∀ i, i < zs.length → w.cell? (x.add i) = some (.int k (zs.getD i 0))) ∧ ∀ n ∈ zs, (Lit.int k n).wf = true

theorem info5 : (Trym.prog.info? 5).map (fun i => (i.zero, i.size, i.bytes)) = some (some (.int .u8 0), 1, 1) := by kernel_rfl

theorem row_made {w : World} {base e g n : Nat} {xs : List Value} (h : w.ownsRow base e 1 (.slice (some ⟨g, 0, none⟩) n n) n xs) : w.heap[g]? = some (.cells xs.toArray e (0, 0)) ∧ xs.length = n := by
  obtain ⟨h1, h2⟩ := h
  refine ⟨?_, by simpa using h1⟩
  rcases h2 with ⟨h', _⟩ | ⟨g', cap, cur, h', _, hg, _, _, hs, ht⟩
  · simp at h'
  · simp only [Value.slice.injEq, Option.some.injEq, Addr.mk.injEq, and_true, true_and] at h'
    obtain ⟨rfl, rfl⟩ := h'
    rw [hg]
    have e1 : cur.toList = xs := by rw [← ht]; exact (List.take_of_length_le (by simp [hs])).symm
    have e2 : cur = xs.toArray := by rw [← e1]
    rw [e2]

theorem splice_all {α : Type} (L cs : List α) (h : cs.length = L.length) : splice L 0 cs = cs := by
  unfold splice
  rw [List.drop_eq_nil_of_le (by omega)]
  simp

theorem block_lt {w : World} {a : Addr} {v : Value} (h : w.cell? a = some v) : a.block < w.heap.size := by
  unfold World.cell? at h
  cases e : w.heap[a.block]? with
  | none => rw [e] at h; simp at h
  | some o => exact (Array.getElem?_eq_some_iff.1 e).1

theorem cell_row {w : World} {g : Nat} {X : List Value} {t : TypeId} (h : w.heap[g]? = some (.cells X.toArray t (0, 0))) {k : Nat} {v : Value} (hk : X[k]? = some v) : w.cell? ⟨g, k, none⟩ = some v := by
  unfold World.cell?
  rw [h]
  simpa using hk

theorem copied {P : Program} {w0 w1 : World} {n cap : Nat} {x : Addr} {Z X : List Value} (dT ty elem : TypeId) (hu : P.underlying dT = some (.slice elem)) (hs : (P.info? elem).map (·.size) = some 1)
    (hown : w1.ownsRow w0.heap.size elem 1 (.slice (some ⟨w0.heap.size, 0, none⟩) n n) n Z) (hgrow : w0.grownBy w1 none) (hXl : X.length = n)
    (hsrc : ∀ j v, X[j]? = some v → w0.cell? (x.add j) = some v) (hxb : x.block < w0.heap.size) (h1 : ∀ v ∈ X, v.oneCell' = true) :
    ∃ w2, (Builtin.copy_ #[dT, dT] ty #[.slice (some ⟨w0.heap.size, 0, none⟩) n n, .slice (some x) n cap]).run P w1 = .ok (.int .i64 n) w2 ∧
      w2.heap[w0.heap.size]? = some (.cells X.toArray elem (0, 0)) ∧ Below w0.heap.size w0 w2 := by
  obtain ⟨hg, hZ⟩ := row_made hown
  have hb : Below w0.heap.size w0 w1 := (Below.refl _ _).grown hgrow (Nat.le_refl _) (fun k h => by cases h)
  have hrun := run_copy_row (P := P) w1 dT dT ty elem w0.heap.size 0 n n x n cap Z.toArray elem X hu hs hg (by simp [hXl])
    (fun j v hj => by rw [hb.cell (block_lt (hsrc j v hj))]; exact hsrc j v hj) (by simp [hXl, hZ]) h1
  have e : (Z.toArray.toList.take 0 ++ X ++ Z.toArray.toList.drop (0 + X.length)) = X := by
    simp [hXl, ← hZ]
  rw [e] at hrun
  refine ⟨_, ?_, setRow_heap w1 w0.heap.size _ X.toArray elem (0, 0) hg, below_setRow hb (Nat.le_refl _) _⟩
  rw [hrun, hXl]
  rfl

theorem walk_pos (x : Addr) (n cap : Nat) (z : List Int) (w : World) (hn0 : 1 ≤ n) (hn : n ≤ 1048576) (hnc : n ≤ z.length)
    (hcell : ∀ i, i < z.length → w.cell? (x.add i) = some (.int .u8 (z.getD i 0))) (hwf : ∀ n ∈ z, (Lit.int .u8 n).wf = true) :
    Calls Trym.prog 3 #[.slice (some x) n cap] w fun e w' => e = .returned (.bool true) ∧ Below w.heap.size w w' := by
  have hB : ∀ k, 0 ≤ z.getD k 0 ∧ z.getD k 0 ≤ 255 := fun k => by simpa using range_u8 hwf k
  obtain ⟨B, HB⟩ : ∃ B : Nat → Int, Hid (B = fun k => z.getD k 0) := ⟨_, (rfl : (fun k => z.getD k 0) = (fun k => z.getD k 0))⟩
  have hB' : Hid (∀ k, 0 ≤ B k ∧ B k ≤ 255) := by rw [HB.out]; exact hB
  obtain ⟨X, HX⟩ : ∃ X : List Value, Hid (X = (z.take n).map (Value.int .u8)) := ⟨_, (rfl : (z.take n).map (Value.int .u8) = (z.take n).map (Value.int .u8))⟩
  have hXl : X.length = n := by rw [HX.out]; simp; omega
  have HXl := hideIt hXl
  have hXg : Hid (∀ j v, X[j]? = some v → w.cell? (x.add j) = some v) := by
    intro j v hj
    rw [HX.out, List.getElem?_map, List.getElem?_take] at hj
    by_cases e : j < n
    · rw [if_pos e] at hj
      rw [hcell j (by omega)]
      rw [List.getElem?_eq_getElem (by omega)] at hj
      simp at hj
      simp [← hj, List.getD_eq_getElem?_getD, List.getElem?_eq_getElem (show j < z.length by omega)]
    · rw [if_neg e] at hj; simp at hj
  have hX1 : Hid (∀ v ∈ X, v.oneCell' = true) := by
    intro v hv
    rw [HX.out] at hv
    obtain ⟨a, _, rfl⟩ := List.mem_map.1 hv
    rfl
  have hXB : Hid (∀ k, k < n → X[k]? = some (.int .u8 (B k))) := by
    intro k hk
    rw [HX.out, HB.out, List.getElem?_map, List.getElem?_take, if_pos hk, List.getElem?_eq_getElem (by omega)]
    simp [List.getElem?_eq_getElem (show k < z.length by omega)]
  have hxb : x.block < w.heap.size := block_lt (a := x.add 0) (hcell 0 (by omega))
  clear hXl hB hcell hwf
  have hne := fun w => run_neq_slice_nil_any (P := Trym.prog) w 22 5 (some x) n cap 0 0 Trym.underlying22
  obtain ⟨i0, hi, hz0, hz1, hz2⟩ := info_parts info5
  go_enter Trym.func3, Trym.ntmps3
  go_wp2_with (first | (go_at_call 4; refine (bytes_any _ _ _ _ (by unfold maxLen; omega)).mono ?_; rintro e w' ⟨rfl, rfl⟩) | (at_make; refine wpList_make_full _ rfl _ _ 22 rfl w.heap.size 5 i0 (.int .u8 0) 1 Trym.underlying22 hi hz0 hz1 .i64 .i64 _ _ n rfl rfl rfl rfl (by rw [hz2]; omega) (by unfold maxLen; omega) (Nat.le_refl _) ?_; intro w1 hown hgrow; obtain ⟨w2, hrun2, hg2, hb2⟩ := copied (cap := cap) 22 3 5 Trym.underlying22 (by rw [hi]; simp [hz1]) hown hgrow HXl.out hXg.out hxb hX1.out; have HG2 := hideIt hg2; have HB2 := hideIt hb2; clear hg2 hb2 hown hgrow) | (go_at_call 5; fail) | (go_at_call 6; fail))
  have hc : Hid (∀ k, k < n → w2.cell? ⟨w.heap.size, k, none⟩ = some (.int .u8 (B k))) := fun k hk => cell_row HG2.out (hXB.out k hk)
  clear hrun2 hne HXl hXg hX1 hXB HX HB hxb hi hz0 hz1 hz2
  go_loop [4, 5] (fun a i => ∃ W k : Nat, 1 ≤ k ∧ k ≤ 4 ∧ k ≤ n ∧ i = .int .i64 k ∧ a = .int .i64 W ∧ W < k ∧ allOk B W = true ∧ ∀ j, W < j → j < k → allOk B j = false) (fun _ i => 4 - (intOf i).toNat)
  case atStart => exact ⟨0, 1, by omega, by omega, by omega, rfl, rfl, by omega, rfl, fun j h1 h2 => by omega⟩
  case round =>
    obtain ⟨W, k, hk1, hk4, hkn, rfl, rfl, hWk, hW, hW'⟩ := hrel
    have HW := hideIt hW
    have HW' := hideIt hW'
    clear hW hW'
    by_cases h1 : k < n
    · by_cases h2 : k < 4
      · have h2' : (k : Int) < 4 := by omega
        have hp := pre_any B hB'.out w.heap.size n n (k + 1) w2 (by unfold maxLen; omega) (by omega) (by omega) (by omega) hc.out
        rw [show k + 1 - 1 = k from by omega] at hp
        rw [show ((k + 1 : Nat) : Int) = (k : Int) + 1 from by omega] at hp
        have HP := hideIt hp
        clear hp
        cases hab : allOk B k
        · rw [hab] at HP
          have HAB := hideIt hab
          clear hab
          go_wp2_with (first | (go_at_call 5; refine HP.out.mono ?_; rintro e w' ⟨rfl, rfl⟩) | (go_at_call 6; fail))
          go_round
          case rel => exact ⟨W, k + 1, by omega, by omega, by omega, by go_num, rfl, by omega, HW.out, fun j hj1 hj2 => by
            by_cases e : j = k
            · subst e; exact HAB.out
            · exact HW'.out j hj1 (by omega)⟩
          case measure => simp [intOf]; omega
        · rw [hab] at HP
          have HAB := hideIt hab
          clear hab
          go_wp2_with (first | (go_at_call 5; refine HP.out.mono ?_; rintro e w' ⟨rfl, rfl⟩) | (go_at_call 6; fail))
          go_round
          case rel => exact ⟨k, k + 1, by omega, by omega, by omega, by go_num, rfl, by omega, HAB.out, fun j hj1 hj2 => by omega⟩
          case measure => simp [intOf]; omega
      · obtain rfl : k = 4 := by omega
        have hz := hideIt (zzcont_any B hB'.out w.heap.size n n w2 (by unfold maxLen; omega) hn0 hc.out)
        go_wp2_with (first | (go_at_call 6; refine hz.out.mono ?_; rintro e w' ⟨q, rfl, he, rfl⟩))
        have eq : q = W := same_end B n q W he.1 he.2 hn0 HW.out (by omega) (fun j h1 h2 h3 => HW'.out j h1 h3)
        subst eq
        go_ret
        exact ⟨by simp, HB2.out⟩
    · obtain rfl : k = n := by omega
      have hz := hideIt (zzcont_any B hB'.out w.heap.size k k w2 (by unfold maxLen; omega) hn0 hc.out)
      go_wp2_with (first | (go_at_call 6; refine hz.out.mono ?_; rintro e w' ⟨q, rfl, he, rfl⟩))
      have eq : q = W := same_end B k q W he.1 he.2 hn0 HW.out hWk (fun j h1 h2 h3 => HW'.out j h1 h2)
      subst eq
      go_ret
      exact ⟨by simp, HB2.out⟩

theorem walk_big (a : Option Addr) (n cap : Nat) (w : World) (hn : 1048576 < n) (hm : n ≤ maxLen) :
    Calls Trym.prog 3 #[.slice a n cap] w fun e w' => e = .returned (.bool true) ∧ Below w.heap.size w w' := by
  have hd : decide (n ≤ 1048576) = false := decide_eq_false (by omega)
  go_enter Trym.func3, Trym.ntmps3
  go_wp2_with (first | (go_at_call 4; refine (bytes_any _ _ _ _ hm).mono ?_; rintro e w' ⟨rfl, rfl⟩; rw [hd]))
  go_ret
  exact ⟨rfl, Below.refl _ _⟩

theorem walk_none (a : Option Addr) (cap : Nat) (w : World) :
    Calls Trym.prog 3 #[.slice a 0 cap] w fun e w' => e = .returned (.bool true) ∧ Below w.heap.size w w' := by
  go_enter Trym.func3, Trym.ntmps3
  go_wp2_with (first | (go_at_call 4; refine (bytes_any _ _ _ _ (by unfold maxLen; omega)).mono ?_; rintro e w' ⟨rfl, rfl⟩))
  go_ret
  exact ⟨rfl, Below.refl _ _⟩

theorem walk (a0 : Option Addr) (len0 cap0 : Nat) (z0 : List Int) (w : World) (w0 : IsRow .u8 w a0 len0 cap0 z0) :
    Calls Trym.prog 3 #[.slice a0 len0 cap0] w fun e w' => e = .returned (.bool true) ∧ Below w.heap.size w w' := by
  rcases w0 with ⟨rfl, rfl, rfl, rfl⟩ | ⟨x, rfl, hlc, hcm, hzl, hcell, hwf⟩
  · exact walk_none _ _ _
  · by_cases h0 : len0 = 0
    · subst h0; exact walk_none _ _ _
    · by_cases hb : 1048576 < len0
      · exact walk_big _ _ _ _ hb (by omega)
      · exact walk_pos x len0 cap0 z0 w (by omega) (by omega) (by omega) hcell hwf
end Go.Proofs.Qxb6617839aMods.cms
