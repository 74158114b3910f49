/-
  THE WALK of the law 'FnAccountOfDoorsSplitAtAnyCut' (function 4).
-/
import Derived.Test.Qxb6619196aModsDoors
namespace Go.Proofs.Qxb6619196aMods.acd
open Go.ChangeShapes Go.WideShapes Go.ChangeAt Go.RowKit
set_option linter.unusedVariables false

theorem drawnS (w : World) (n : Nat) : Below w.heap.size w (w.drewN n) := below_drewN (Below.refl _ _) n

/-! ### the plain law: the whole list is the left one and the right one -/
def from_ (P : Nat → ByteArray) (c : Nat) : Nat → ByteArray := fun k => P (c + k)
theorem doors_split (pb : Bool) (P : Nat → ByteArray) (pn : Nat) (kb : Bool) (c : Nat) (hc : c ≤ pn) : doors pb P pn kb = doors pb P c false ++ doors false (from_ P c) (pn - c) kb := by
  obtain ⟨r, rfl⟩ : ∃ r, pn = c + r := ⟨pn - c, by omega⟩
  have e : c + r - c = r := by omega
  rw [e]
  simp only [doors, upTo, List.range_add, List.map_append, List.map_map]
  simp [Function.comp_def, door, from_]
def b2n (x : Bool) : Int := if x then 1 else 0
theorem b2n_bd (x : Bool) : 0 ≤ b2n x ∧ b2n x ≤ 1 := by cases x <;> simp [b2n]
theorem len_b2n (pb : Bool) (P : Nat → ByteArray) (pn : Nat) (kb : Bool) : ((doors pb P pn kb).length : Int) = b2n pb + pn + b2n kb := by
  rw [doors_len]
  cases pb <;> cases kb <;> simp [b2n]
theorem b2n_any (x : Bool) (w : World) : Calls Trym.prog 10 #[.bool x] w fun e w' => e = .returned (.int .i64 (b2n x)) ∧ w = w' := b2i_any x w

/-- what the two loops read: three rows, the three boxes' last cells; old memory is as it was -/
structure SInv (w wr : World) (b1 b2 b3 g g1 g2 L L1 L2 c0 c1 c2 : Nat) (D D1 D2 : List ByteArray) : Prop where
  r0 : HasRow wr g D
  r1 : HasRow wr g1 D1
  r2 : HasRow wr g2 D2
  x1 : wr.cell? ⟨b1, 4, none⟩ = some (.slice (some ⟨g, 0, none⟩) L c0)
  x2 : wr.cell? ⟨b2, 4, none⟩ = some (.slice (some ⟨g1, 0, none⟩) L1 c1)
  x3 : wr.cell? ⟨b3, 4, none⟩ = some (.slice (some ⟨g2, 0, none⟩) L2 c2)
  bel : Below w.heap.size w wr
theorem SInv.drawn {w wr : World} {b1 b2 b3 g g1 g2 L L1 L2 c0 c1 c2 : Nat} {D D1 D2 : List ByteArray} (h : SInv w wr b1 b2 b3 g g1 g2 L L1 L2 c0 c1 c2 D D1 D2) (n : Nat) :
    SInv w (wr.drewN n) b1 b2 b3 g g1 g2 L L1 L2 c0 c1 c2 D D1 D2 :=
  ⟨row_below h.r0 (drawnS _ _), row_below h.r1 (drawnS _ _), row_below h.r2 (drawnS _ _), by rw [(drawnS wr n).cell (block_lt h.x1)]; exact h.x1, by rw [(drawnS wr n).cell (block_lt h.x2)]; exact h.x2,
    by rw [(drawnS wr n).cell (block_lt h.x3)]; exact h.x3, h.bel.trans ((drawnS _ _).mono h.bel.size)⟩

/-- a block that was laid last stands behind a call that keeps what is below -/
theorem box_kept {w w' : World} {cs : Array Value} {t : TypeId} (h : Below (w.alloc (.cells cs t)).heap.size (w.alloc (.cells cs t)) w') : w'.heap[w.heap.size]? = some (.cells cs t (0, 0)) := by
  rw [h.block w.heap.size (by simp)]
  exact heap_alloc_eq w _
theorem box_on {w w' : World} {b : Nat} {o : Obj} (h : w.heap[b]? = some o) (hb : Below w.heap.size w w') : w'.heap[b]? = some o := by
  rw [hb.block b (Array.getElem?_eq_some_iff.1 h).1]; exact h
theorem box_alloc {w : World} {b : Nat} {o o' : Obj} (h : w.heap[b]? = some o) : (w.alloc o').heap[b]? = some o := by
  rw [heap_alloc_lt _ _ _ (Array.getElem?_eq_some_iff.1 h).1]; exact h
theorem lt_of_box {w : World} {b : Nat} {o : Obj} (h : w.heap[b]? = some o) : b < w.heap.size := (Array.getElem?_eq_some_iff.1 h).1
theorem gave_le {w : World} {pa : Option Addr} {n m : Nat} {P : Nat → ByteArray} (h : Gave w pa n P) (hm : m ≤ n) : Gave w pa m P := by
  intro h0
  obtain ⟨b, off, e, hc⟩ := h (by omega)
  exact ⟨b, off, e, fun k hk => hc k (by omega)⟩
theorem gave_from {w : World} {b n c : Nat} {P : Nat → ByteArray} (h : Gave w (some ⟨b, 0, none⟩) n P) (hc : c < n) : Gave w (some ⟨b, c, none⟩) (n - c) (from_ P c) := by
  intro h0
  obtain ⟨b', off, e, hh⟩ := h (by omega)
  cases e
  refine ⟨b, c, rfl, fun k hk => ?_⟩
  have := hh (c + k) (by omega)
  rw [Nat.zero_add] at this
  exact this
theorem gave_zero (w : World) (pa : Option Addr) (P : Nat → ByteArray) : Gave w pa 0 P := fun h => absurd h (by omega)
theorem below_step {w w' : World} {o : Obj} (h : Below (w.alloc o).heap.size (w.alloc o) w') : Below w.heap.size w w' :=
  ((Below.refl _ _).alloc (Nat.le_refl _) o).trans (h.mono (by simp))

set_option maxRecDepth 100000 in
set_option maxHeartbeats 4000000 in
theorem spl_in (id em un : ByteArray) (ev pb kb : Bool) (x : Addr) (pn pc c : Nat) (P : Nat → ByteArray) (w : World) (hid : id.size ≤ maxLen) (hem : em.size ≤ maxLen) (hun : un.size ≤ maxLen) (hcame : Came w (some x) pn P) (hc : c < pn) :
    Calls Trym.prog 4 #[.string id, .string em, .bool ev, .string un, .bool pb, .slice (some x) pn pc, .bool kb, .int .i64 (c : Int)] w fun e w' => e = .returned (.bool true) ∧ Below w.heap.size w w' := by
  have H9 := hideIt (bytesS id em un ev pb kb (c : Int) (some x) pn pc P w hid hem hun hcame)
  have H6 := hideIt (fits_any id em un (some x) pn pc P w hid hem hun hcame)
  have hpm : pn ≤ maxLen := hcame.2.1
  unfold maxLen at hpm
  have HG := hideIt hcame.1
  clear hcame hid hem hun
  have hne := fun w => run_neq_slice_nil_any (P := Trym.prog) w 22 9 (some x) pn pc 0 0 Trym.underlying22
  obtain ⟨i0, hi, hz0, hz1, hz2⟩ := info_parts info9
  obtain ⟨D1, HD1⟩ : ∃ D, Hid (doors pb P c false = D) := ⟨_, (rfl : doors pb P c false = doors pb P c false)⟩
  obtain ⟨L1, HL1⟩ : ∃ L, Hid (D1.length = L) := ⟨_, (rfl : D1.length = D1.length)⟩
  obtain ⟨D2, HD2⟩ : ∃ D, Hid (doors false (from_ P c) (pn - c) kb = D) := ⟨_, (rfl : doors false (from_ P c) (pn - c) kb = doors false (from_ P c) (pn - c) kb)⟩
  obtain ⟨L2, HL2⟩ : ∃ L, Hid (D2.length = L) := ⟨_, (rfl : D2.length = D2.length)⟩
  have HD : Hid (doors pb P pn kb = D1 ++ D2) := by rw [← HD1.out, ← HD2.out]; exact doors_split pb P pn kb c (by omega)
  obtain ⟨D, HDD⟩ : ∃ D, Hid (D1 ++ D2 = D) := ⟨_, (rfl : D1 ++ D2 = D1 ++ D2)⟩
  rw [HDD.out] at HD
  obtain ⟨L, HL⟩ : ∃ L, Hid (D.length = L) := ⟨_, (rfl : D.length = D.length)⟩
  have eL : (L : Int) = b2n pb + (pn : Nat) + b2n kb := by rw [← HL.out, ← HD.out]; exact len_b2n pb P pn kb
  have eL12 : L = L1 + L2 := by rw [← HL.out, ← HL1.out, ← HL2.out, ← HDD.out]; simp
  have bp := b2n_bd pb
  have bk := b2n_bd kb
  have q1 : (L : Int) ≤ b2n pb + (pn : Nat) + b2n kb := by omega
  have q2 : b2n pb + (pn : Nat) + b2n kb ≤ (L : Int) := by omega
  have q3 : L ≤ L1 + L2 := by omega
  have q4 : L1 + L2 ≤ L := by omega
  clear eL eL12
  go_enter Trym.func4, Trym.ntmps4
  go_wp2_with (first | (go_at_call 9; refine H9.out.mono ?_; rintro e w' ⟨r, rfl, hr, rfl⟩) | (go_at_call 6; refine H6.out.mono ?_; rintro e w' ⟨r6, rfl, _, rfl⟩) | (at_make; have hf : Fits pn P := hr (by simpa using ‹(!r) = false›); have hpn := hf.1; have HF := hideIt hf.2; clear hf; refine wpList_make_full _ rfl _ _ 22 rfl w.heap.size 9 i0 (.string ⟨#[]⟩) 1 Trym.underlying22 hi hz0 hz1 .i64 .i64 _ _ pn rfl rfl rfl rfl (by rw [hz2]; omega) (by unfold maxLen; omega) (Nat.le_refl _) ?_; intro w1 hown hgrow; obtain ⟨w2, hrun2, hg2, hb2⟩ := copied (cap := pc) rfl hown hgrow HG.out; have HG2 := hideIt hg2; have HB2 := hideIt hb2; clear hg2 hb2 hown hgrow))
  · go_ret; exact ⟨rfl, Below.refl _ _⟩
  · go_ret; exact ⟨rfl, Below.refl _ _⟩
  refine (zzacc_len id em un ev pb kb _ pn pn P w2 D L HD.out HL.out hpn HG2.out HF.out).mono ?_
  rintro e w3 ⟨g, ca0, rfl, hg, hrow0, hb3⟩
  have HR0 := hideIt hrow0
  have HB3 := hideIt hb3
  clear hrow0 hb3 hg H9 H6 hne hrun2 hi hz0 hz1 hz2
  go_wp2_with fail
  have HG3 := hideIt (gave_below (gave_below HG2.out HB3.out) ((Below.refl _ _).alloc (Nat.le_refl w3.heap.size) (.cells #[.string id, .string em, .bool ev, .string un, .slice (some ⟨g, 0, none⟩) L ca0] 26)))
  refine (zzacc_len id em un ev pb false _ c _ P _ D1 L1 HD1.out HL1.out (by omega) (gave_le HG3.out (by omega)) (fun k hk => HF.out k (by omega))).mono ?_
  rintro e w4 ⟨g1, ca1, rfl, hg1, hrow1, hb4⟩
  have HR1 := hideIt hrow1
  have HK1 := hideIt (box_kept hb4)
  have HG4 := hideIt (gave_below (gave_below HG3.out hb4) ((Below.refl _ _).alloc (Nat.le_refl w4.heap.size) (.cells #[.string id, .string em, .bool ev, .string un, .slice (some ⟨g1, 0, none⟩) L1 ca1] 26)))
  have HB4 := hideIt (below_step hb4)
  clear hrow1 hb4 hg1
  go_wp2_with fail
  refine (zzacc_len id em un ev false kb _ (pn - c) _ (from_ P c) _ D2 L2 HD2.out HL2.out (by omega) (gave_from HG4.out hc) (fun k hk => HF.out (c + k) (by omega))).mono ?_
  rintro e w5 ⟨g2, ca2, rfl, hg2, hrow2, hb5⟩
  have HR2 := hideIt hrow2
  have HK2 := hideIt (box_kept hb5)
  have HB5 := hideIt (below_step hb5)
  have HK15 := hideIt (box_on HK1.out HB5.out)
  clear hrow2 hb5 hg2
  have k1 := cell_in HK15.out
  have k2 := cell_in HK2.out
  have a0 := k1 0
  have a1 := k1 1
  have a2 := k1 2
  have a3 := k1 3
  have a4 := k1 4
  have a5 := k2 4
  simp at a0 a1 a2 a3 a4 a5
  clear k1 k2
  have hs1 : w3.heap.size < w5.heap.size := lt_of_box HK15.out
  have hs2 : w4.heap.size < w5.heap.size := lt_of_box HK2.out
  have n1 := fun w => Lib.run_eql_slice_nil (P := Trym.prog) w 22 9 (some ⟨g, 0, none⟩) L ca0 0 0 Trym.underlying22
  have n2 := fun w => Lib.run_eql_slice_nil (P := Trym.prog) w 22 9 (some ⟨g1, 0, none⟩) L1 ca1 0 0 Trym.underlying22
  have n3 := fun w => Lib.run_eql_slice_nil (P := Trym.prog) w 22 9 (some ⟨g2, 0, none⟩) L2 ca2 0 0 Trym.underlying22
  have HI : Hid (SInv w (w5.alloc (.cells #[.string id, .string em, .bool ev, .string un, .slice (some ⟨g2, 0, none⟩) L2 ca2] 26)) w3.heap.size w4.heap.size w5.heap.size g g1 g2 L L1 L2 ca0 ca1 ca2 D D1 D2) := by
    have hal := (Below.refl w5.heap.size w5).alloc (Nat.le_refl w5.heap.size) (.cells #[.string id, .string em, .bool ev, .string un, .slice (some ⟨g2, 0, none⟩) L2 ca2] 26)
    exact ⟨row_below (row_below (row_below HR0.out HB4.out) HB5.out) hal, row_below (row_below HR1.out HB5.out) hal, row_below HR2.out hal, by rw [hal.cell hs1]; exact a4, by rw [hal.cell hs2]; exact a5,
      cell_in (heap_alloc_eq w5 _) 4, HB2.out.trans (((HB3.out.mono HB2.out.size).trans (HB4.out.mono (Nat.le_trans HB2.out.size HB3.out.size))).trans ((HB5.out.mono (Nat.le_trans HB2.out.size (Nat.le_trans HB3.out.size HB4.out.size))).trans (hal.mono (Nat.le_trans HB2.out.size (Nat.le_trans HB3.out.size (Nat.le_trans HB4.out.size HB5.out.size))))))⟩
  go_wp2_with (first | (go_at_call 10; refine (b2n_any _ _).mono ?_; rintro e w' ⟨rfl, rfl⟩))
  clear a0 a1 a2 a3 a4 a5 n1 n2 n3 HK1 HK2 HK15 HR0 HR1 HR2 HB2 HB3 HB4 HB5 HG HG2 HG3 HG4 HF
  go_loopw [22] (fun i wr => ∃ k : Nat, k ≤ L1 ∧ i = .int .i64 k ∧ SInv w wr w3.heap.size w4.heap.size w5.heap.size g g1 g2 L L1 L2 ca0 ca1 ca2 D D1 D2) (fun i _ => L1 - (intOf i).toNat)
  case atStart => exact ⟨0, Nat.zero_le _, rfl, HI.out⟩
  case round =>
    clear HI
    obtain ⟨k, hk, rfl, hinv⟩ := hrel
    have HS := hideIt hinv
    have x1 := hinv.x1
    have x2 := hinv.x2
    clear hinv
    have hLb : L ≤ 2097152 := by omega
    by_cases hlt : k < L1
    · obtain ⟨s, hs⟩ : ∃ s, Hid (D1[k]? = some s) := ⟨D1[k]'(by rw [HL1.out]; exact hlt), List.getElem?_eq_getElem (by rw [HL1.out]; exact hlt)⟩
      have e1 : wr.cell? ⟨g1, k, none⟩ = some (.string s) := HS.out.r1 k s hs.out
      have e0 : wr.cell? ⟨g, k, none⟩ = some (.string s) := HS.out.r0 k s (by rw [← HDD.out, List.getElem?_append_left (by rw [HL1.out]; exact hlt)]; exact hs.out)
      have i1 : (k : Int) < (L1 : Int) := by omega
      have i2 : (k : Int) < (L : Int) := by omega
      go_wp2
      go_quiet (fail)
      go_wp2
      go_roundw
      case rel => exact ⟨k + 1, by omega, by go_num, HS.out.drawn _⟩
      case measure => simp [intOf]; omega
    · have hkk : (k : Int) = (L1 : Int) := by omega
      have HKK := hideIt hkk
      have hge : (L1 : Int) ≤ (k : Int) := by omega
      clear hkk
      go_wp2_with fail
      clear x1 x2
      go_loopw [24] (fun i wr => ∃ j : Nat, j ≤ L2 ∧ i = .int .i64 j ∧ SInv w wr w3.heap.size w4.heap.size w5.heap.size g g1 g2 L L1 L2 ca0 ca1 ca2 D D1 D2) (fun i _ => L2 - (intOf i).toNat)
      case atStart => exact ⟨0, Nat.zero_le _, rfl, HS.out⟩
      case round =>
        rename_i wr0
        clear HS
        obtain ⟨j, hj, rfl, hinv⟩ := hrel
        have HS := hideIt hinv
        have x1 := hinv.x1
        have x3 := hinv.x3
        clear hinv
        by_cases hjl : j < L2
        · obtain ⟨s, hs⟩ : ∃ s, Hid (D2[j]? = some s) := ⟨D2[j]'(by rw [HL2.out]; exact hjl), List.getElem?_eq_getElem (by rw [HL2.out]; exact hjl)⟩
          have e1 := HS.out.r2 j s hs.out
          have e0 := HS.out.r0 (L1 + j) s (by rw [← HDD.out, List.getElem?_append_right (by rw [HL1.out]; omega), HL1.out, Nat.add_sub_cancel_left]; exact hs.out)
          have i1 : (j : Int) < (L2 : Int) := by omega
          have i2 : (L1 : Int) + (j : Int) < (L : Int) := by omega
          go_wp2
          go_quiet (fail)
          go_wp2
          go_roundw
          case rel => exact ⟨j + 1, by omega, by go_num, HS.out.drawn _⟩
          case measure => simp [intOf]; omega
        · go_wp2
          go_ret
          exact ⟨rfl, HS.out.bel⟩

set_option maxRecDepth 100000 in
set_option maxHeartbeats 4000000 in
theorem spl_end (id em un : ByteArray) (ev pb kb : Bool) (x : Addr) (pn pc : Nat) (P : Nat → ByteArray) (w : World) (hid : id.size ≤ maxLen) (hem : em.size ≤ maxLen) (hun : un.size ≤ maxLen) (hcame : Came w (some x) pn P) :
    Calls Trym.prog 4 #[.string id, .string em, .bool ev, .string un, .bool pb, .slice (some x) pn pc, .bool kb, .int .i64 (pn : Int)] w fun e w' => e = .returned (.bool true) ∧ Below w.heap.size w w' := by
  have H9 := hideIt (bytesS id em un ev pb kb (pn : Int) (some x) pn pc P w hid hem hun hcame)
  have H6 := hideIt (fits_any id em un (some x) pn pc P w hid hem hun hcame)
  have hpm : pn ≤ maxLen := hcame.2.1
  unfold maxLen at hpm
  have HG := hideIt hcame.1
  clear hcame hid hem hun
  have hne := fun w => run_neq_slice_nil_any (P := Trym.prog) w 22 9 (some x) pn pc 0 0 Trym.underlying22
  obtain ⟨i0, hi, hz0, hz1, hz2⟩ := info_parts info9
  obtain ⟨D1, HD1⟩ : ∃ D, Hid (doors pb P pn false = D) := ⟨_, (rfl : doors pb P pn false = doors pb P pn false)⟩
  obtain ⟨L1, HL1⟩ : ∃ L, Hid (D1.length = L) := ⟨_, (rfl : D1.length = D1.length)⟩
  obtain ⟨D2, HD2⟩ : ∃ D, Hid (doors false (from_ P pn) 0 kb = D) := ⟨_, (rfl : doors false (from_ P pn) 0 kb = doors false (from_ P pn) 0 kb)⟩
  obtain ⟨L2, HL2⟩ : ∃ L, Hid (D2.length = L) := ⟨_, (rfl : D2.length = D2.length)⟩
  have HD : Hid (doors pb P pn kb = D1 ++ D2) := by rw [← HD1.out, ← HD2.out]; have := doors_split pb P pn kb pn (Nat.le_refl _); rwa [Nat.sub_self] at this
  obtain ⟨D, HDD⟩ : ∃ D, Hid (D1 ++ D2 = D) := ⟨_, (rfl : D1 ++ D2 = D1 ++ D2)⟩
  rw [HDD.out] at HD
  obtain ⟨L, HL⟩ : ∃ L, Hid (D.length = L) := ⟨_, (rfl : D.length = D.length)⟩
  have eL : (L : Int) = b2n pb + (pn : Nat) + b2n kb := by rw [← HL.out, ← HD.out]; exact len_b2n pb P pn kb
  have eL12 : L = L1 + L2 := by rw [← HL.out, ← HL1.out, ← HL2.out, ← HDD.out]; simp
  have bp := b2n_bd pb
  have bk := b2n_bd kb
  have q1 : (L : Int) ≤ b2n pb + (pn : Nat) + b2n kb := by omega
  have q2 : b2n pb + (pn : Nat) + b2n kb ≤ (L : Int) := by omega
  have q3 : L ≤ L1 + L2 := by omega
  have q4 : L1 + L2 ≤ L := by omega
  clear eL eL12
  go_enter Trym.func4, Trym.ntmps4
  go_wp2_with (first | (go_at_call 9; refine H9.out.mono ?_; rintro e w' ⟨r, rfl, hr, rfl⟩) | (go_at_call 6; refine H6.out.mono ?_; rintro e w' ⟨r6, rfl, _, rfl⟩) | (at_make; have hf : Fits pn P := hr (by simpa using ‹(!r) = false›); have hpn := hf.1; have HF := hideIt hf.2; clear hf; refine wpList_make_full _ rfl _ _ 22 rfl w.heap.size 9 i0 (.string ⟨#[]⟩) 1 Trym.underlying22 hi hz0 hz1 .i64 .i64 _ _ pn rfl rfl rfl rfl (by rw [hz2]; omega) (by unfold maxLen; omega) (Nat.le_refl _) ?_; intro w1 hown hgrow; obtain ⟨w2, hrun2, hg2, hb2⟩ := copied (cap := pc) rfl hown hgrow HG.out; have HG2 := hideIt hg2; have HB2 := hideIt hb2; clear hg2 hb2 hown hgrow))
  · go_ret; exact ⟨rfl, Below.refl _ _⟩
  · go_ret; exact ⟨rfl, Below.refl _ _⟩
  refine (zzacc_len id em un ev pb kb _ pn pn P w2 D L HD.out HL.out hpn HG2.out HF.out).mono ?_
  rintro e w3 ⟨g, ca0, rfl, hg, hrow0, hb3⟩
  have HR0 := hideIt hrow0
  have HB3 := hideIt hb3
  clear hrow0 hb3 hg H9 H6 hne hrun2 hi hz0 hz1 hz2
  go_wp2_with fail
  have HG3 := hideIt (gave_below (gave_below HG2.out HB3.out) ((Below.refl _ _).alloc (Nat.le_refl w3.heap.size) (.cells #[.string id, .string em, .bool ev, .string un, .slice (some ⟨g, 0, none⟩) L ca0] 26)))
  refine (zzacc_len id em un ev pb false _ pn _ P _ D1 L1 HD1.out HL1.out (by omega) (gave_le HG3.out (by omega)) (fun k hk => HF.out k (by omega))).mono ?_
  rintro e w4 ⟨g1, ca1, rfl, hg1, hrow1, hb4⟩
  have HR1 := hideIt hrow1
  have HK1 := hideIt (box_kept hb4)
  have HG4 := hideIt (gave_below (gave_below HG3.out hb4) ((Below.refl _ _).alloc (Nat.le_refl w4.heap.size) (.cells #[.string id, .string em, .bool ev, .string un, .slice (some ⟨g1, 0, none⟩) L1 ca1] 26)))
  have HB4 := hideIt (below_step hb4)
  clear hrow1 hb4 hg1
  go_wp2_with fail
  refine (zzacc_len id em un ev false kb _ 0 _ (from_ P pn) _ D2 L2 HD2.out HL2.out (by omega) (gave_zero _ _ _) (fun k hk => absurd hk (by omega))).mono ?_
  rintro e w5 ⟨g2, ca2, rfl, hg2, hrow2, hb5⟩
  have HR2 := hideIt hrow2
  have HK2 := hideIt (box_kept hb5)
  have HB5 := hideIt (below_step hb5)
  have HK15 := hideIt (box_on HK1.out HB5.out)
  clear hrow2 hb5 hg2
  have k1 := cell_in HK15.out
  have k2 := cell_in HK2.out
  have a0 := k1 0
  have a1 := k1 1
  have a2 := k1 2
  have a3 := k1 3
  have a4 := k1 4
  have a5 := k2 4
  simp at a0 a1 a2 a3 a4 a5
  clear k1 k2
  have hs1 : w3.heap.size < w5.heap.size := lt_of_box HK15.out
  have hs2 : w4.heap.size < w5.heap.size := lt_of_box HK2.out
  have n1 := fun w => Lib.run_eql_slice_nil (P := Trym.prog) w 22 9 (some ⟨g, 0, none⟩) L ca0 0 0 Trym.underlying22
  have n2 := fun w => Lib.run_eql_slice_nil (P := Trym.prog) w 22 9 (some ⟨g1, 0, none⟩) L1 ca1 0 0 Trym.underlying22
  have n3 := fun w => Lib.run_eql_slice_nil (P := Trym.prog) w 22 9 (some ⟨g2, 0, none⟩) L2 ca2 0 0 Trym.underlying22
  have HI : Hid (SInv w (w5.alloc (.cells #[.string id, .string em, .bool ev, .string un, .slice (some ⟨g2, 0, none⟩) L2 ca2] 26)) w3.heap.size w4.heap.size w5.heap.size g g1 g2 L L1 L2 ca0 ca1 ca2 D D1 D2) := by
    have hal := (Below.refl w5.heap.size w5).alloc (Nat.le_refl w5.heap.size) (.cells #[.string id, .string em, .bool ev, .string un, .slice (some ⟨g2, 0, none⟩) L2 ca2] 26)
    exact ⟨row_below (row_below (row_below HR0.out HB4.out) HB5.out) hal, row_below (row_below HR1.out HB5.out) hal, row_below HR2.out hal, by rw [hal.cell hs1]; exact a4, by rw [hal.cell hs2]; exact a5,
      cell_in (heap_alloc_eq w5 _) 4, HB2.out.trans (((HB3.out.mono HB2.out.size).trans (HB4.out.mono (Nat.le_trans HB2.out.size HB3.out.size))).trans ((HB5.out.mono (Nat.le_trans HB2.out.size (Nat.le_trans HB3.out.size HB4.out.size))).trans (hal.mono (Nat.le_trans HB2.out.size (Nat.le_trans HB3.out.size (Nat.le_trans HB4.out.size HB5.out.size))))))⟩
  go_wp2_with (first | (go_at_call 10; refine (b2n_any _ _).mono ?_; rintro e w' ⟨rfl, rfl⟩))
  clear a0 a1 a2 a3 a4 a5 n1 n2 n3 HK1 HK2 HK15 HR0 HR1 HR2 HB2 HB3 HB4 HB5 HG HG2 HG3 HG4 HF
  go_loopw [22] (fun i wr => ∃ k : Nat, k ≤ L1 ∧ i = .int .i64 k ∧ SInv w wr w3.heap.size w4.heap.size w5.heap.size g g1 g2 L L1 L2 ca0 ca1 ca2 D D1 D2) (fun i _ => L1 - (intOf i).toNat)
  case atStart => exact ⟨0, Nat.zero_le _, rfl, HI.out⟩
  case round =>
    clear HI
    obtain ⟨k, hk, rfl, hinv⟩ := hrel
    have HS := hideIt hinv
    have x1 := hinv.x1
    have x2 := hinv.x2
    clear hinv
    have hLb : L ≤ 2097152 := by omega
    by_cases hlt : k < L1
    · obtain ⟨s, hs⟩ : ∃ s, Hid (D1[k]? = some s) := ⟨D1[k]'(by rw [HL1.out]; exact hlt), List.getElem?_eq_getElem (by rw [HL1.out]; exact hlt)⟩
      have e1 : wr.cell? ⟨g1, k, none⟩ = some (.string s) := HS.out.r1 k s hs.out
      have e0 : wr.cell? ⟨g, k, none⟩ = some (.string s) := HS.out.r0 k s (by rw [← HDD.out, List.getElem?_append_left (by rw [HL1.out]; exact hlt)]; exact hs.out)
      have i1 : (k : Int) < (L1 : Int) := by omega
      have i2 : (k : Int) < (L : Int) := by omega
      go_wp2
      go_quiet (fail)
      go_wp2
      go_roundw
      case rel => exact ⟨k + 1, by omega, by go_num, HS.out.drawn _⟩
      case measure => simp [intOf]; omega
    · have hkk : (k : Int) = (L1 : Int) := by omega
      have HKK := hideIt hkk
      have hge : (L1 : Int) ≤ (k : Int) := by omega
      clear hkk
      go_wp2_with fail
      clear x1 x2
      go_loopw [24] (fun i wr => ∃ j : Nat, j ≤ L2 ∧ i = .int .i64 j ∧ SInv w wr w3.heap.size w4.heap.size w5.heap.size g g1 g2 L L1 L2 ca0 ca1 ca2 D D1 D2) (fun i _ => L2 - (intOf i).toNat)
      case atStart => exact ⟨0, Nat.zero_le _, rfl, HS.out⟩
      case round =>
        rename_i wr0
        clear HS
        obtain ⟨j, hj, rfl, hinv⟩ := hrel
        have HS := hideIt hinv
        have x1 := hinv.x1
        have x3 := hinv.x3
        clear hinv
        by_cases hjl : j < L2
        · obtain ⟨s, hs⟩ : ∃ s, Hid (D2[j]? = some s) := ⟨D2[j]'(by rw [HL2.out]; exact hjl), List.getElem?_eq_getElem (by rw [HL2.out]; exact hjl)⟩
          have e1 := HS.out.r2 j s hs.out
          have e0 := HS.out.r0 (L1 + j) s (by rw [← HDD.out, List.getElem?_append_right (by rw [HL1.out]; omega), HL1.out, Nat.add_sub_cancel_left]; exact hs.out)
          have i1 : (j : Int) < (L2 : Int) := by omega
          have i2 : (L1 : Int) + (j : Int) < (L : Int) := by omega
          go_wp2
          go_quiet (fail)
          go_wp2
          go_roundw
          case rel => exact ⟨j + 1, by omega, by go_num, HS.out.drawn _⟩
          case measure => simp [intOf]; omega
        · go_wp2
          go_ret
          exact ⟨rfl, HS.out.bel⟩

set_option maxRecDepth 100000 in
set_option maxHeartbeats 4000000 in
theorem spl_none (id em un : ByteArray) (ev pb kb : Bool) (P : Nat → ByteArray) (w : World) (hid : id.size ≤ maxLen) (hem : em.size ≤ maxLen) (hun : un.size ≤ maxLen) (hcame : Came w none 0 P) :
    Calls Trym.prog 4 #[.string id, .string em, .bool ev, .string un, .bool pb, .slice none 0 0, .bool kb, .int .i64 0] w fun e w' => e = .returned (.bool true) ∧ Below w.heap.size w w' := by
  have H9 := hideIt (bytesS id em un ev pb kb 0 none 0 0 P w hid hem hun hcame)
  have H6 := hideIt (fits_any id em un none 0 0 P w hid hem hun hcame)
  have hpm : 0 ≤ maxLen := hcame.2.1
  unfold maxLen at hpm
  have HG := hideIt hcame.1
  clear hcame hid hem hun
  have hne := fun w => run_neq_slice_nil_any (P := Trym.prog) w 22 9 none 0 0 0 0 Trym.underlying22
  obtain ⟨i0, hi, hz0, hz1, hz2⟩ := info_parts info9
  obtain ⟨D1, HD1⟩ : ∃ D, Hid (doors pb P 0 false = D) := ⟨_, (rfl : doors pb P 0 false = doors pb P 0 false)⟩
  obtain ⟨L1, HL1⟩ : ∃ L, Hid (D1.length = L) := ⟨_, (rfl : D1.length = D1.length)⟩
  obtain ⟨D2, HD2⟩ : ∃ D, Hid (doors false (from_ P 0) 0 kb = D) := ⟨_, (rfl : doors false (from_ P 0) 0 kb = doors false (from_ P 0) 0 kb)⟩
  obtain ⟨L2, HL2⟩ : ∃ L, Hid (D2.length = L) := ⟨_, (rfl : D2.length = D2.length)⟩
  have HD : Hid (doors pb P 0 kb = D1 ++ D2) := by rw [← HD1.out, ← HD2.out]; have := doors_split pb P 0 kb 0 (Nat.le_refl _); rwa [Nat.sub_self] at this
  obtain ⟨D, HDD⟩ : ∃ D, Hid (D1 ++ D2 = D) := ⟨_, (rfl : D1 ++ D2 = D1 ++ D2)⟩
  rw [HDD.out] at HD
  obtain ⟨L, HL⟩ : ∃ L, Hid (D.length = L) := ⟨_, (rfl : D.length = D.length)⟩
  have eL : (L : Int) = b2n pb + (0 : Nat) + b2n kb := by rw [← HL.out, ← HD.out]; exact len_b2n pb P 0 kb
  have eL12 : L = L1 + L2 := by rw [← HL.out, ← HL1.out, ← HL2.out, ← HDD.out]; simp
  have bp := b2n_bd pb
  have bk := b2n_bd kb
  have q1 : (L : Int) ≤ b2n pb + (0 : Nat) + b2n kb := by omega
  have q2 : b2n pb + (0 : Nat) + b2n kb ≤ (L : Int) := by omega
  have q3 : L ≤ L1 + L2 := by omega
  have q4 : L1 + L2 ≤ L := by omega
  clear eL eL12
  go_enter Trym.func4, Trym.ntmps4
  go_wp2_with (first | (go_at_call 9; refine H9.out.mono ?_; rintro e w' ⟨r, rfl, hr, rfl⟩) | (go_at_call 6; refine H6.out.mono ?_; rintro e w' ⟨r6, rfl, _, rfl⟩))
  · go_ret; exact ⟨rfl, Below.refl _ _⟩
  · go_ret; exact ⟨rfl, Below.refl _ _⟩
  have hf : Fits 0 P := hr (by simpa using ‹(!r) = false›)
  have hpn := hf.1
  have HF := hideIt hf.2
  clear hf
  have HG2 := HG
  have HB2 := hideIt (Below.refl w.heap.size w)
  refine (zzacc_len id em un ev pb kb _ 0 0 P w D L HD.out HL.out hpn HG2.out HF.out).mono ?_
  rintro e w3 ⟨g, ca0, rfl, hg, hrow0, hb3⟩
  have HR0 := hideIt hrow0
  have HB3 := hideIt hb3
  clear hrow0 hb3 hg H9 H6 hne hi hz0 hz1 hz2
  go_wp2_with fail
  have HG3 := hideIt (gave_below (gave_below HG2.out HB3.out) ((Below.refl _ _).alloc (Nat.le_refl w3.heap.size) (.cells #[.string id, .string em, .bool ev, .string un, .slice (some ⟨g, 0, none⟩) L ca0] 26)))
  refine (zzacc_len id em un ev pb false _ 0 _ P _ D1 L1 HD1.out HL1.out (by omega) (gave_zero _ _ _) (fun k hk => HF.out k (by omega))).mono ?_
  rintro e w4 ⟨g1, ca1, rfl, hg1, hrow1, hb4⟩
  have HR1 := hideIt hrow1
  have HK1 := hideIt (box_kept hb4)
  have HG4 := hideIt (gave_below (gave_below HG3.out hb4) ((Below.refl _ _).alloc (Nat.le_refl w4.heap.size) (.cells #[.string id, .string em, .bool ev, .string un, .slice (some ⟨g1, 0, none⟩) L1 ca1] 26)))
  have HB4 := hideIt (below_step hb4)
  clear hrow1 hb4 hg1
  go_wp2_with fail
  refine (zzacc_len id em un ev false kb _ 0 _ (from_ P 0) _ D2 L2 HD2.out HL2.out (by omega) (gave_zero _ _ _) (fun k hk => absurd hk (by omega))).mono ?_
  rintro e w5 ⟨g2, ca2, rfl, hg2, hrow2, hb5⟩
  have HR2 := hideIt hrow2
  have HK2 := hideIt (box_kept hb5)
  have HB5 := hideIt (below_step hb5)
  have HK15 := hideIt (box_on HK1.out HB5.out)
  clear hrow2 hb5 hg2
  have k1 := cell_in HK15.out
  have k2 := cell_in HK2.out
  have a0 := k1 0
  have a1 := k1 1
  have a2 := k1 2
  have a3 := k1 3
  have a4 := k1 4
  have a5 := k2 4
  simp at a0 a1 a2 a3 a4 a5
  clear k1 k2
  have hs1 : w3.heap.size < w5.heap.size := lt_of_box HK15.out
  have hs2 : w4.heap.size < w5.heap.size := lt_of_box HK2.out
  have n1 := fun w => Lib.run_eql_slice_nil (P := Trym.prog) w 22 9 (some ⟨g, 0, none⟩) L ca0 0 0 Trym.underlying22
  have n2 := fun w => Lib.run_eql_slice_nil (P := Trym.prog) w 22 9 (some ⟨g1, 0, none⟩) L1 ca1 0 0 Trym.underlying22
  have n3 := fun w => Lib.run_eql_slice_nil (P := Trym.prog) w 22 9 (some ⟨g2, 0, none⟩) L2 ca2 0 0 Trym.underlying22
  have HI : Hid (SInv w (w5.alloc (.cells #[.string id, .string em, .bool ev, .string un, .slice (some ⟨g2, 0, none⟩) L2 ca2] 26)) w3.heap.size w4.heap.size w5.heap.size g g1 g2 L L1 L2 ca0 ca1 ca2 D D1 D2) := by
    have hal := (Below.refl w5.heap.size w5).alloc (Nat.le_refl w5.heap.size) (.cells #[.string id, .string em, .bool ev, .string un, .slice (some ⟨g2, 0, none⟩) L2 ca2] 26)
    exact ⟨row_below (row_below (row_below HR0.out HB4.out) HB5.out) hal, row_below (row_below HR1.out HB5.out) hal, row_below HR2.out hal, by rw [hal.cell hs1]; exact a4, by rw [hal.cell hs2]; exact a5,
      cell_in (heap_alloc_eq w5 _) 4, HB2.out.trans (((HB3.out.mono HB2.out.size).trans (HB4.out.mono (Nat.le_trans HB2.out.size HB3.out.size))).trans ((HB5.out.mono (Nat.le_trans HB2.out.size (Nat.le_trans HB3.out.size HB4.out.size))).trans (hal.mono (Nat.le_trans HB2.out.size (Nat.le_trans HB3.out.size (Nat.le_trans HB4.out.size HB5.out.size))))))⟩
  go_wp2_with (first | (go_at_call 10; refine (b2n_any _ _).mono ?_; rintro e w' ⟨rfl, rfl⟩))
  clear a0 a1 a2 a3 a4 a5 n1 n2 n3 HK1 HK2 HK15 HR0 HR1 HR2 HB2 HB3 HB4 HB5 HG HG2 HG3 HG4 HF
  go_loopw [22] (fun i wr => ∃ k : Nat, k ≤ L1 ∧ i = .int .i64 k ∧ SInv w wr w3.heap.size w4.heap.size w5.heap.size g g1 g2 L L1 L2 ca0 ca1 ca2 D D1 D2) (fun i _ => L1 - (intOf i).toNat)
  case atStart => exact ⟨0, Nat.zero_le _, rfl, HI.out⟩
  case round =>
    clear HI
    obtain ⟨k, hk, rfl, hinv⟩ := hrel
    have HS := hideIt hinv
    have x1 := hinv.x1
    have x2 := hinv.x2
    clear hinv
    have hLb : L ≤ 2097152 := by omega
    by_cases hlt : k < L1
    · obtain ⟨s, hs⟩ : ∃ s, Hid (D1[k]? = some s) := ⟨D1[k]'(by rw [HL1.out]; exact hlt), List.getElem?_eq_getElem (by rw [HL1.out]; exact hlt)⟩
      have e1 : wr.cell? ⟨g1, k, none⟩ = some (.string s) := HS.out.r1 k s hs.out
      have e0 : wr.cell? ⟨g, k, none⟩ = some (.string s) := HS.out.r0 k s (by rw [← HDD.out, List.getElem?_append_left (by rw [HL1.out]; exact hlt)]; exact hs.out)
      have i1 : (k : Int) < (L1 : Int) := by omega
      have i2 : (k : Int) < (L : Int) := by omega
      go_wp2
      go_quiet (fail)
      go_wp2
      go_roundw
      case rel => exact ⟨k + 1, by omega, by go_num, HS.out.drawn _⟩
      case measure => simp [intOf]; omega
    · have hkk : (k : Int) = (L1 : Int) := by omega
      have HKK := hideIt hkk
      have hge : (L1 : Int) ≤ (k : Int) := by omega
      clear hkk
      go_wp2_with fail
      clear x1 x2
      go_loopw [24] (fun i wr => ∃ j : Nat, j ≤ L2 ∧ i = .int .i64 j ∧ SInv w wr w3.heap.size w4.heap.size w5.heap.size g g1 g2 L L1 L2 ca0 ca1 ca2 D D1 D2) (fun i _ => L2 - (intOf i).toNat)
      case atStart => exact ⟨0, Nat.zero_le _, rfl, HS.out⟩
      case round =>
        rename_i wr0
        clear HS
        obtain ⟨j, hj, rfl, hinv⟩ := hrel
        have HS := hideIt hinv
        have x1 := hinv.x1
        have x3 := hinv.x3
        clear hinv
        by_cases hjl : j < L2
        · obtain ⟨s, hs⟩ : ∃ s, Hid (D2[j]? = some s) := ⟨D2[j]'(by rw [HL2.out]; exact hjl), List.getElem?_eq_getElem (by rw [HL2.out]; exact hjl)⟩
          have e1 := HS.out.r2 j s hs.out
          have e0 := HS.out.r0 (L1 + j) s (by rw [← HDD.out, List.getElem?_append_right (by rw [HL1.out]; omega), HL1.out, Nat.add_sub_cancel_left]; exact hs.out)
          have i1 : (j : Int) < (L2 : Int) := by omega
          have i2 : (L1 : Int) + (j : Int) < (L : Int) := by omega
          go_wp2
          go_quiet (fail)
          go_wp2
          go_roundw
          case rel => exact ⟨j + 1, by omega, by go_num, HS.out.drawn _⟩
          case measure => simp [intOf]; omega
        · go_wp2
          go_ret
          exact ⟨rfl, HS.out.bel⟩

set_option maxRecDepth 100000 in
set_option maxHeartbeats 1000000 in
theorem spl_out (id em un : ByteArray) (ev pb kb : Bool) (pa : Option Addr) (pn pc : Nat) (P : Nat → ByteArray) (cut : Int) (w : World) (hid : id.size ≤ maxLen) (hem : em.size ≤ maxLen) (hun : un.size ≤ maxLen) (hcame : Came w pa pn P) (hc : cut < 0 ∨ (pn : Int) < cut) :
    Calls Trym.prog 4 #[.string id, .string em, .bool ev, .string un, .bool pb, .slice pa pn pc, .bool kb, .int .i64 cut] w fun e w' => e = .returned (.bool true) ∧ Below w.heap.size w w' := by
  have H9 := hideIt (bytesS id em un ev pb kb cut pa pn pc P w hid hem hun hcame)
  have H6 := hideIt (fits_any id em un pa pn pc P w hid hem hun hcame)
  have hpm : pn ≤ maxLen := hcame.2.1
  unfold maxLen at hpm
  clear hcame hid hem hun
  rcases hc with hc | hc
  · go_enter Trym.func4, Trym.ntmps4
    go_wp2_with (first | (go_at_call 9; refine H9.out.mono ?_; rintro e w' ⟨r, rfl, hr, rfl⟩) | (go_at_call 6; refine H6.out.mono ?_; rintro e w' ⟨r6, rfl, _, rfl⟩))
    all_goals (go_ret; exact ⟨rfl, Below.refl _ _⟩)
  · have hc0 : ¬ cut < 0 := by omega
    go_enter Trym.func4, Trym.ntmps4
    go_wp2_with (first | (go_at_call 9; refine H9.out.mono ?_; rintro e w' ⟨r, rfl, hr, rfl⟩) | (go_at_call 6; refine H6.out.mono ?_; rintro e w' ⟨r6, rfl, _, rfl⟩))
    all_goals (go_ret; exact ⟨rfl, Below.refl _ _⟩)

theorem spl_any (id em un : ByteArray) (ev pb kb : Bool) (pa : Option Addr) (pn pc : Nat) (P : Nat → ByteArray) (cut : Int) (w : World) (hid : id.size ≤ maxLen) (hem : em.size ≤ maxLen) (hun : un.size ≤ maxLen) (hcame : Came w pa pn P) (hnil : pa = none → pn = 0 ∧ pc = 0) :
    Calls Trym.prog 4 #[.string id, .string em, .bool ev, .string un, .bool pb, .slice pa pn pc, .bool kb, .int .i64 cut] w fun e w' => e = .returned (.bool true) ∧ Below w.heap.size w w' := by
  by_cases hc : cut < 0 ∨ (pn : Int) < cut
  · exact spl_out id em un ev pb kb pa pn pc P cut w hid hem hun hcame hc
  · obtain ⟨c, rfl⟩ := Int.eq_ofNat_of_zero_le (show 0 ≤ cut by omega)
    cases pa with
    | none =>
      obtain ⟨rfl, rfl⟩ := hnil rfl
      obtain rfl : c = 0 := by omega
      exact spl_none id em un ev pb kb P w hid hem hun hcame
    | some x =>
      by_cases he : c = pn
      · subst he
        exact spl_end id em un ev pb kb x c pc P w hid hem hun hcame
      · exact spl_in id em un ev pb kb x pn pc c P w hid hem hun hcame (by omega)
end Go.Proofs.Qxb6619196aMods.acd
