/-
  THE WALK of 'ZZAccountOf' (function 7).
-/
import Derived.Test.Qxb6619196aModsAcc
namespace Go.Proofs.Qxb6619196aMods.acd
open Go.ChangeShapes Go.WideShapes Go.ChangeAt Go.RowKit
set_option linter.unusedVariables false

theorem gave_below {w w' : World} {pa : Option Addr} {pn : Nat} {P : Nat → ByteArray} (h : Gave w pa pn P) (hb : Below w.heap.size w w') : Gave w' pa pn P := by
  intro h0
  obtain ⟨b, off, e, hc⟩ := h h0
  exact ⟨b, off, e, fun k hk => by rw [hb.cell (block_lt (hc k hk))]; exact hc k hk⟩
theorem row_setCell {w : World} {g : Nat} {D : List ByteArray} (h : HasRow w g D) {a : Addr} (ha : a.block ≠ g) (v : Value) : HasRow (w.setCell a v) g D := by
  intro j s hj
  rw [World.cell?_of_block (w := w) (w' := w.setCell a v) (a := ⟨g, j, none⟩) (Below.heap_setCell w a v g (fun e => ha e.symm))]
  exact h j s hj
theorem row_below {w w' : World} {g : Nat} {D : List ByteArray} (h : HasRow w g D) (hb : Below w.heap.size w w') : HasRow w' g D := by
  intro j s hj
  rw [hb.cell (block_lt (h j s hj))]
  exact h j s hj

theorem zz_block {w w2 : World} {cs : Array Value} (h : Below (w.alloc (.cells cs 26)).heap.size (w.alloc (.cells cs 26)) w2) : w2.heap[w.heap.size]? = some (.cells cs 26 (0, 0)) := by
  rw [h.block w.heap.size (by simp)]
  exact heap_alloc_eq w _

set_option maxHeartbeats 1000000 in
theorem zzacc_any (id em un : ByteArray) (ev pb kb : Bool) (pa : Option Addr) (pn pc : Nat) (P : Nat → ByteArray) (w : World) (hpn : pn ≤ 1048576)
    (hcell : Gave w pa pn P) (hsz : ∀ k, k < pn → (P k).size ≤ 1048576) :
    Calls Trym.prog 7 #[.string id, .string em, .bool ev, .string un, .bool pb, .slice pa pn pc, .bool kb] w fun e w' => Made w id em un ev (doors pb P pn kb) e w' := by
  obtain ⟨O, hO⟩ : ∃ O : Obj, O = .cells #[.string ⟨#[]⟩, .string ⟨#[]⟩, .bool false, .string ⟨#[]⟩, .slice none 0 0] 26 := ⟨_, rfl⟩
  have hb1 : Below w.heap.size w (w.alloc O) := (Below.refl _ _).alloc (Nat.le_refl _) O
  have H1 := hideIt (acc_any id em un ev pb kb pa pn pc P (w.alloc O) hpn (gave_below hcell hb1) hsz)
  have HB1 := hideIt hb1
  rw [hO] at H1 HB1
  obtain ⟨D, hD⟩ : ∃ D, Hid (doors pb P pn kb = D) := ⟨_, (rfl : doors pb P pn kb = doors pb P pn kb)⟩
  rw [hD.out] at H1 ⊢
  clear hO hcell hsz hb1 hD
  go_enter Trym.func7, Trym.ntmps7
  go_wp2_with (first | (go_at_call 11; refine H1.out.mono ?_; rintro e w2 ⟨g, cap, rfl, hg, hrow, hb2⟩; have HR := hideIt hrow; have HB2 := hideIt hb2; have hbk := zz_block hb2; clear hrow hb2; have hcr := cell_in hbk; have hfr := free_in hbk; have r0 := hcr 0; have r1 := hcr 1; have r2 := hcr 2; have r3 := hcr 3; have r4 := hcr 4; simp at r0 r1 r2 r3 r4; clear hcr hbk))
  have HN : w.heap.size + 1 ≤ g := by simpa using hg
  clear hg
  obtain ⟨nd, hnd⟩ : ∃ nd, Hid (nd = D.length) := ⟨_, (rfl : D.length = D.length)⟩
  refine bodyPost_ret (v := .agg #[.string id, .string em, .bool ev, .string un, .slice (some ⟨g, 0, none⟩) D.length cap]) (by simp [results, Trym.results7, go_sem, r0, r1, r2, r3, r4]) rfl ⟨g, cap, rfl, by omega, ?_, ?_⟩
  · exact row_setCell (row_setCell (row_setCell (row_setCell (row_setCell HR.out (by show w.heap.size ≠ g; omega) _) (by show w.heap.size ≠ g; omega) _) (by show w.heap.size ≠ g; omega) _) (by show w.heap.size ≠ g; omega) _) (by show w.heap.size ≠ g; omega) _
  · exact (((((HB1.out.trans (HB2.out.mono (by simp))).setCell (Nat.le_refl _) _).setCell (Nat.le_refl _) _).setCell (Nat.le_refl _) _).setCell (Nat.le_refl _) _).setCell (Nat.le_refl _) _
end Go.Proofs.Qxb6619196aMods.acd
