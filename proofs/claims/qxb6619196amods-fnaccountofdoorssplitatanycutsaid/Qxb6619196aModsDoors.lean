/-
  THE COPY AHEAD OF BOTH LAWS, and the plain facts on the doors.
-/
import Derived.Test.Qxb6619196aModsSmall
import Derived.Laws.CopyOwn
import Derived.Deep.QuietTactic
import Derived.BigQuiet
import Derived.Lib.Strings
namespace Go.Proofs.Qxb6619196aMods.acd
open Go.ChangeShapes Go.WideShapes Go.ChangeAt Go.RowKit
set_option linter.unusedVariables false

theorem row_made {w : World} {base e g n : Nat} {xs : List Value} (h : w.ownsRow base e 1 (.slice (some ⟨g, 0, none⟩) n n) n xs) : w.heap[g]? = some (.cells xs.toArray e (0, 0)) ∧ xs.length = n := by
  obtain ⟨h1, h2⟩ := h
  refine ⟨?_, by simpa using h1⟩
  rcases h2 with ⟨h', _⟩ | ⟨g', cap, cur, h', _, hg, _, _, hs, ht⟩
  · simp at h'
  · simp only [Value.slice.injEq, Option.some.injEq, Addr.mk.injEq, and_true, true_and] at h'
    obtain ⟨rfl, rfl⟩ := h'
    rw [hg]
    have e1 : cur.toList = xs := by rw [← ht]; exact (List.take_of_length_le (by simp [hs])).symm
    have e2 : cur = xs.toArray := by rw [← e1]
    rw [e2]

theorem cell_row {w : World} {g : Nat} {X : List Value} {t : TypeId} (h : w.heap[g]? = some (.cells X.toArray t (0, 0))) {k : Nat} {v : Value} (hk : X[k]? = some v) : w.cell? ⟨g, k, none⟩ = some v := by
  unfold World.cell?
  rw [h]
  simpa using hk

/-- 'zzc := make([]string, len(providers)); copy(zzc, providers)': the copy reads as the providers do -/
theorem copied {w0 w1 : World} {n cap : Nat} {pa : Option Addr} {x : Addr} {Z : List Value} {P : Nat → ByteArray} (hx : pa = some x)
    (hown : w1.ownsRow w0.heap.size 9 1 (.slice (some ⟨w0.heap.size, 0, none⟩) n n) n Z) (hgrow : w0.grownBy w1 none) (hg : Gave w0 pa n P) :
    ∃ w2, (Builtin.copy_ #[22, 22] 3 #[.slice (some ⟨w0.heap.size, 0, none⟩) n n, .slice pa n cap]).run Trym.prog w1 = .ok (.int .i64 n) w2 ∧
      Gave w2 (some ⟨w0.heap.size, 0, none⟩) n P ∧ Below w0.heap.size w0 w2 := by
  subst hx
  obtain ⟨i0, hi, hz0, hz1, hz2⟩ := info_parts info9
  obtain ⟨X, hX⟩ : ∃ X : List Value, X = (List.range n).map (fun k => Value.string (P k)) := ⟨_, rfl⟩
  have hXl : X.length = n := by rw [hX]; simp
  have hXk : ∀ k, k < n → X[k]? = some (.string (P k)) := by intro k hk; rw [hX]; simp [hk]
  have hsrc : ∀ j v, X[j]? = some v → w0.cell? (x.add j) = some v := by
    intro j v hj
    have hlt : j < n := by have := (List.getElem?_eq_some_iff.1 hj).1; omega
    obtain ⟨b, off, e, hc⟩ := hg (by omega)
    cases e
    rw [hXk j hlt] at hj
    cases hj
    rw [add_plain]
    exact hc j hlt
  have h1 : ∀ v ∈ X, v.oneCell' = true := by
    intro v hv
    rw [hX] at hv
    obtain ⟨a, _, rfl⟩ := List.mem_map.1 hv
    rfl
  obtain ⟨hgz, hZ⟩ := row_made hown
  have hb : Below w0.heap.size w0 w1 := (Below.refl _ _).grown hgrow (Nat.le_refl _) (fun k h => by cases h)
  have hrun := run_copy_row (P := Trym.prog) w1 22 22 3 9 w0.heap.size 0 n n x n cap Z.toArray 9 X Trym.underlying22 (by rw [hi]; simp [hz1]) hgz (by simp [hXl])
    (fun j v hj => by rw [hb.cell (block_lt (hsrc j v hj))]; exact hsrc j v hj) (by simp [hXl, hZ]) h1
  have e : (Z.toArray.toList.take 0 ++ X ++ Z.toArray.toList.drop (0 + X.length)) = X := by
    simp [hXl, ← hZ]
  rw [e] at hrun
  refine ⟨_, ?_, ?_, below_setRow hb (Nat.le_refl _) X.toArray⟩
  · rw [hrun, hXl]; rfl
  · intro _
    refine ⟨w0.heap.size, 0, rfl, fun k hk => ?_⟩
    rw [Nat.zero_add]
    exact cell_row (setRow_heap w1 w0.heap.size _ X.toArray 9 (0, 0) hgz) (hXk k hk)

/-! ### the plain facts on doors -/
theorem door_size (P : Nat → ByteArray) (k : Nat) : (door P k).size = 5 + (P k).size := by
  unfold door OI
  rw [ByteArray.size_append]
  rfl
theorem door_data (P : Nat → ByteArray) (k : Nat) : (door P k).data.toList = [111, 105, 100, 99, 58] ++ (P k).data.toList := by
  unfold door OI
  rw [ByteArray.data_append]
  simp
theorem door_list (P : Nat → ByteArray) (k : Nat) : (door P k).toList = [111, 105, 100, 99, 58] ++ (P k).toList := by
  rw [Lib.toList_data, Lib.toList_data, door_data]
theorem door_oidc (P : Nat → ByteArray) (k : Nat) : isOidc (door P k) = true := by
  unfold isOidc
  rw [Lib.toList_data, Lib.extract_data, door_data, door_size]
  simp
theorem door_cut (P : Nat → ByteArray) (k : Nat) : ((door P k).extract 5 (door P k).size).toList = (P k).toList := by
  rw [Lib.toList_data, Lib.toList_data, Lib.extract_data, door_data, door_size, show 5 + (P k).size - 5 = (P k).size from by omega]
  show List.take (P k).size (P k).data.toList = _
  exact List.take_of_length_le (by rw [Array.length_toList]; exact Nat.le_refl _)
theorem door_pw (P : Nat → ByteArray) (k : Nat) : ((door P k).toList == [112, 97, 115, 115, 119, 111, 114, 100]) = false := by
  rw [door_list]; simp
theorem pk_oidc : isOidc PK = false := by decide +kernel
theorem pk_pw : (PK.toList == [112, 97, 115, 115, 119, 111, 114, 100]) = false := by decide +kernel
theorem pk_pk : (PK.toList == [112, 97, 115, 115, 107, 101, 121]) = true := by decide +kernel
theorem pw_pw : (PW.toList == [112, 97, 115, 115, 119, 111, 114, 100]) = true := by decide +kernel

theorem doors_len (pb : Bool) (P : Nat → ByteArray) (pn : Nat) (kb : Bool) : (doors pb P pn kb).length = (if pb then 1 else 0) + pn + (if kb then 1 else 0) := by
  cases pb <;> cases kb <;> simp [doors, upTo] <;> omega
theorem doors_door (pb : Bool) (P : Nat → ByteArray) (pn : Nat) (kb : Bool) (k : Nat) (hk : k < pn) : (doors pb P pn kb)[(if pb then 1 else 0) + k]? = some (door P k) := by
  unfold doors upTo
  rw [List.getElem?_append_left (by cases pb <;> simp <;> omega)]
  rw [List.getElem?_append_right (by cases pb <;> simp)]
  cases pb <;> simp [hk]
theorem doors_pw (P : Nat → ByteArray) (pn : Nat) (kb : Bool) : (doors true P pn kb)[0]? = some PW := by
  cases kb <;> simp [doors, upTo]
theorem doors_pk (pb : Bool) (P : Nat → ByteArray) (pn : Nat) : (doors pb P pn true)[(if pb then 1 else 0) + pn]? = some PK := by
  unfold doors
  have hl : (upTo P (if pb then [PW] else []) pn).length = (if pb then 1 else 0) + pn := by rw [upTo_len]; cases pb <;> rfl
  rw [List.getElem?_append_right (by omega), hl]
  simp

/-- the same with the length under a name of its own -/
def Made' (w : World) (id em un : ByteArray) (ev : Bool) (D : List ByteArray) (L : Nat) (e : Ending) (w' : World) : Prop :=
  ∃ g cap, e = .returned (.agg #[.string id, .string em, .bool ev, .string un, .slice (some ⟨g, 0, none⟩) L cap]) ∧ w.heap.size ≤ g ∧ HasRow w' g D ∧ Below w.heap.size w w'
theorem zzacc_len (id em un : ByteArray) (ev pb kb : Bool) (pa : Option Addr) (pn pc : Nat) (P : Nat → ByteArray) (w : World) (D : List ByteArray) (L : Nat) (hD : doors pb P pn kb = D) (hL : D.length = L) (hpn : pn ≤ 1048576)
    (hcell : Gave w pa pn P) (hsz : ∀ k, k < pn → (P k).size ≤ 1048576) :
    Calls Trym.prog 7 #[.string id, .string em, .bool ev, .string un, .bool pb, .slice pa pn pc, .bool kb] w fun e w' => Made' w id em un ev D L e w' := by
  subst hD
  subst hL
  exact zzacc_any id em un ev pb kb pa pn pc P w hpn hcell hsz
end Go.Proofs.Qxb6619196aMods.acd
