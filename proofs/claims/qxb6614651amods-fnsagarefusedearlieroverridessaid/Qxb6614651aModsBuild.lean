/-
  THE WALK of zzBuildRecord (6).
-/
import Derived.Test.Qxb6614651aModsAt
namespace Go.Proofs.Qxb6614651aMods.sag
open Go.ChangeShapes Go.WideShapes Go.ChangeAt Go.RowKit
set_option linter.unusedVariables false

theorem info51' : (Trym.prog.info? 51).map (fun i => (i.zero, i.size, i.bytes)) = some (some (.agg #[.int .i64 0, .string ⟨#[]⟩, .pointer none, .pointer none, .pointer none, .slice none 0 0, .string ⟨#[]⟩, .int .i64 0, .string ⟨#[]⟩]), 9, 112) := by kernel_rfl

/-- the record as it is first laid -/
def rec0 (gid st : ByteArray) : Array Value := #[.string gid, .string ⟨#[]⟩, .string st, .int .u64 0, .int .i64 0, .pointer none, .int .u64 0, .int .i64 0, .pointer none, .int .i64 0, .int .u64 0, .int .i64 0, .pointer none, .string ⟨#[]⟩, .int .i64 0, .string ⟨#[]⟩, .pointer none, .pointer none, .pointer none, .pointer none, .slice none 0 0]
/-- a branch as 'make' lays it -/
def zeroB (j : Nat) : Value := if j = 0 then .int .i64 0 else if j = 1 then .string ⟨#[]⟩ else if j = 5 then .slice none 0 0 else if j = 6 then .string ⟨#[]⟩ else if j = 7 then .int .i64 0 else if j = 8 then .string ⟨#[]⟩ else .pointer none

theorem made_at (n k f : Nat) (hk : k < n) (hf : f < 9) : (madeCells (Value.cells (.agg #[.int .i64 0, .string ⟨#[]⟩, .pointer none, .pointer none, .pointer none, .slice none 0 0, .string ⟨#[]⟩, .int .i64 0, .string ⟨#[]⟩])) (n * 9)).toList[k * 9 + f]? = some (zeroB f) := by
  have hlt : k * 9 + f < n * 9 := by omega
  have hm : (k * 9 + f) % 9 = f := by omega
  have e : (madeCells (Value.cells (.agg #[.int .i64 0, .string ⟨#[]⟩, .pointer none, .pointer none, .pointer none, .slice none 0 0, .string ⟨#[]⟩, .int .i64 0, .string ⟨#[]⟩])) (n * 9)).toList[k * 9 + f]? = some ((#[.int .i64 0, .string ⟨#[]⟩, .pointer none, .pointer none, .pointer none, .slice none 0 0, .string ⟨#[]⟩, .int .i64 0, .string ⟨#[]⟩] : Array Value)[(k * 9 + f) % 9]!) := by
    simp [madeCells, hlt, Value.cells]
  rw [e, hm]
  match f, hf with
  | 0, _ => rfl
  | 1, _ => rfl
  | 2, _ => rfl
  | 3, _ => rfl
  | 4, _ => rfl
  | 5, _ => rfl
  | 6, _ => rfl
  | 7, _ => rfl
  | 8, _ => rfl

theorem own_size {w w1 : World} {o : Obj} {b n : Nat} {xs : List Value} (h : w1.ownsRow b 51 9 (.slice (some ⟨(w.alloc o).heap.size, 0, none⟩) n n) n xs) : w1.ownsRow b 51 9 (.slice (some ⟨w.heap.size + 1, 0, none⟩) n n) n xs := by
  have e : (w.alloc o).heap.size = w.heap.size + 1 := by simp
  rwa [e] at h

theorem rec_start {w w1 : World} {gid st : ByteArray} {n : Nat} {xs : List Value} (hn : 0 < n) (hown : w1.ownsRow (w.heap.size + 1) 51 9 (.slice (some ⟨w.heap.size + 1, 0, none⟩) n n) n xs) (hxs : ∀ k f, k < n → f < 9 → xs[k * 9 + f]? = some (zeroB f))
    (hgrow : (w.alloc (.cells (rec0 gid st) 44)).grownBy w1 none) :
    w1.heap[w.heap.size]? = some (.cells (rec0 gid st) 44 (0, 0)) ∧ Rec (w1.setCell ⟨w.heap.size, 20, none⟩ (.slice (some ⟨w.heap.size + 1, 0, none⟩) n n)) w.heap.size (w.heap.size + 1) n gid st (.pointer none) (fun _ j => zeroB j) ∧
      Below w.heap.size w (w1.setCell ⟨w.heap.size, 20, none⟩ (.slice (some ⟨w.heap.size + 1, 0, none⟩) n n)) := by
  have hr : w1.heap[w.heap.size]? = some (.cells (rec0 gid st) 44 (0, 0)) := by
    rw [hgrow.block w.heap.size (by simp) (fun e => by cases e)]
    show (w.heap.push (.cells (rec0 gid st) 44))[w.heap.size]? = _
    simp
  have hq : ∃ cur, w1.heap[w.heap.size + 1]? = some (.cells cur 51 (0, 0)) := by
    rcases hown.2 with ⟨h', _⟩ | ⟨g', cap, cur, h', _, hg, _⟩
    · simp at h'
    · simp only [Value.slice.injEq, Option.some.injEq, Addr.mk.injEq, and_true, true_and] at h'
      obtain ⟨e, _⟩ := h'
      rw [← e] at hg
      exact ⟨cur, hg⟩
  obtain ⟨cur, hq⟩ := hq
  refine ⟨hr, ⟨?_, ?_, ?_, ?_, fun j => ?_, fun k f hk hf => ?_, fun j => ?_, by omega⟩, ?_⟩
  · rw [set_off (by omega)]; exact cell_in hr 0
  · rw [set_off (by omega)]; exact cell_in hr 2
  · rw [set_off (by omega)]; exact cell_in hr 16
  · exact set_same (cell_in hr 20)
  · rw [World.frozen?_setCell]; exact free_in hr j
  · rw [set_block (by show w.heap.size ≠ w.heap.size + 1; omega), hown.cellAt (k * 9 + f) (by omega)]
    exact hxs k f hk hf
  · rw [World.frozen?_setCell]; exact free_in hq j
  · exact ((((Below.refl _ _).alloc (Nat.le_refl _) _).grown hgrow (by simp) (fun k h => by cases h))).setCell (Nat.le_refl _) _

/-- one cell of a branch written -/
def upd (F : Nat → Nat → Value) (k f : Nat) (v : Value) : Nat → Nat → Value := fun k' j => if k' = k ∧ j = f then v else F k' j
theorem Rec.setField {w : World} {r q n : Nat} {gid st : ByteArray} {rf : Value} {F : Nat → Nat → Value} (h : Rec w r q n gid st rf F) {k f : Nat} (hk : k < n) (hf : f < 9) (v : Value) :
    Rec (w.setCell ⟨q, k * 9 + f, none⟩ v) r q n gid st rf (upd F k f v) := by
  have hne := h.ne
  refine ⟨?_, ?_, ?_, ?_, fun j => by rw [World.frozen?_setCell]; exact h.fr j, fun k' j hk' hj => ?_, fun j => by rw [World.frozen?_setCell]; exact h.fq j, hne⟩
  · rw [set_block (fun e => hne e.symm)]; exact h.g
  · rw [set_block (fun e => hne e.symm)]; exact h.s
  · rw [set_block (fun e => hne e.symm)]; exact h.f
  · rw [set_block (fun e => hne e.symm)]; exact h.b
  · unfold upd
    by_cases e : k' = k ∧ j = f
    · obtain ⟨rfl, rfl⟩ := e
      rw [if_pos ⟨rfl, rfl⟩]
      exact set_same (h.row k' j hk' hj)
    · rw [if_neg e, set_off (by omega)]
      exact h.row k' j hk' hj
theorem Rec.drewOne {w : World} {r q n : Nat} {gid st : ByteArray} {rf : Value} {F : Nat → Nat → Value} (h : Rec w r q n gid st rf F) : Rec w.drew r q n gid st rf F := ⟨h.g, h.s, h.f, h.b, h.fr, h.row, h.fq, h.ne⟩

/-- the rows behind k rounds -/
def upRow (B : Bs) (Y : Nat → Value) (k : Nat) : Nat → Nat → Value := fun j f => if j < k then fields B Y B.st j f else zeroB f

/-- a payload's copy, in a block from 'lo' on -/
def PayAt (w : World) (y : Value) (nil : Bool) (pl : Nat) (z : Nat → Int) (lo : Nat) : Prop :=
  ∃ ao c, y = .slice ao pl c ∧ ao.isNone = nil ∧ BytesAt w ao pl z ∧ ∀ x, ao = some x → lo ≤ x.block
theorem PayAt.is {w : World} {y : Value} {nil : Bool} {pl : Nat} {z : Nat → Int} {lo : Nat} (h : PayAt w y nil pl z lo) : PayIs w y nil pl z := by
  obtain ⟨ao, c, e, hn, hb, _⟩ := h
  exact ⟨ao, c, e, hn, hb⟩
theorem PayAt.only {w w' : World} {y : Value} {nil : Bool} {pl : Nat} {z : Nat → Int} {lo r q : Nat} (h : PayAt w y nil pl z lo) (ho : Only w w' r q) (hr : r < lo) (hq : q < lo) : PayAt w' y nil pl z lo := by
  obtain ⟨ao, c, e, hn, hb, hl⟩ := h
  refine ⟨ao, c, e, hn, fun h0 => ?_, hl⟩
  obtain ⟨b, off, e2, hc⟩ := hb h0
  have hlb := hl _ e2
  exact ⟨b, off, e2, fun j hj => ho.cell (hc j hj) (by show b ≠ r; simp only at hlb; omega) (by show b ≠ q; simp only at hlb; omega)⟩

/-- what zzBuildRecord has made so far -/
structure St (w W : World) (n : Nat) (gid st : ByteArray) (B : Bs) (Y : Nat → Value) (m : Nat) (F : Nat → Nat → Value) : Prop where
  rc : Rec W w.heap.size (w.heap.size + 1) n gid st (.pointer none) F
  py : ∀ j, j < m → PayAt W (Y j) (B.pa j).isNone (B.pl j) (B.pz j) (w.heap.size + 2)
  bl : Below w.heap.size w W
theorem St.set {w W : World} {n : Nat} {gid st : ByteArray} {B : Bs} {Y : Nat → Value} {m : Nat} {F : Nat → Nat → Value} (h : St w W n gid st B Y m F) {k f : Nat} (hk : k < n) (hf : f < 9) (v : Value) :
    St w (W.setCell ⟨w.heap.size + 1, k * 9 + f, none⟩ v) n gid st B Y m (upd F k f v) :=
  ⟨h.rc.setField hk hf v, fun j hj => (h.py j hj).only ((Only.refl W w.heap.size (w.heap.size + 1)).set (Or.inr rfl) v) (by omega) (by omega), h.bl.setCell (by show w.heap.size ≤ w.heap.size + 1; omega) v⟩
theorem St.set0 {w W : World} {n : Nat} {gid st : ByteArray} {B : Bs} {Y : Nat → Value} {m : Nat} {F : Nat → Nat → Value} (h : St w W n gid st B Y m F) {k : Nat} (hk : k < n) (v : Value) :
    St w (W.setCell ⟨w.heap.size + 1, k * 9, none⟩ v) n gid st B Y m (upd F k 0 v) := h.set hk (show 0 < 9 by omega) v
theorem St.below {w W W' : World} {n : Nat} {gid st : ByteArray} {B : Bs} {Y : Nat → Value} {m : Nat} {F : Nat → Nat → Value} (h : St w W n gid st B Y m F) (hn : 0 < n) (hb : Below W.heap.size W W') : St w W' n gid st B Y m F :=
  ⟨h.rc.keep hn hb, fun j hj => (h.py j hj).only (Only.of_below (r := w.heap.size) (q := w.heap.size + 1) hb) (by omega) (by omega), h.bl.trans (hb.mono h.bl.size)⟩
theorem St.drewOne {w W : World} {n : Nat} {gid st : ByteArray} {B : Bs} {Y : Nat → Value} {m : Nat} {F : Nat → Nat → Value} (h : St w W n gid st B Y m F) (hn : 0 < n) : St w W.drew n gid st B Y m F := h.below hn (Below.refl _ _).drew
theorem St.cellThere {w W : World} {n : Nat} {gid st : ByteArray} {B : Bs} {Y : Nat → Value} {m : Nat} {F : Nat → Nat → Value} (h : St w W n gid st B Y m F) {k f : Nat} (hk : k < n) (hf : f < 9) :
    ∃ tv, W.cell? ⟨w.heap.size + 1, k * 9 + f, none⟩ = some tv := ⟨_, h.rc.row k f hk hf⟩

theorem St.congr {w W : World} {n : Nat} {gid st : ByteArray} {B : Bs} {Y : Nat → Value} {m : Nat} {F F' : Nat → Nat → Value} (h : St w W n gid st B Y m F) (e : ∀ k j, k < n → j < 9 → F k j = F' k j) : St w W n gid st B Y m F' :=
  ⟨h.rc.congr e, h.py, h.bl⟩
/-- the copy of payload k is laid and stored -/
theorem St.clone {w W w5 : World} {n : Nat} {gid st : ByteArray} {B : Bs} {Y : Nat → Value} {k : Nat} {F : Nat → Nat → Value} (h : St w W n gid st B Y k F) (hk : k < n) {ao : Option Addr} {c : Nat}
    (ha : ao.isNone = (B.pa k).isNone ∧ BytesAt w5 ao (B.pl k) (B.pz k) ∧ (∀ x, ao = some x → W.drew.heap.size ≤ x.block) ∧ Below W.drew.heap.size W.drew w5) :
    St w (w5.setCell ⟨w.heap.size + 1, k * 9 + 5, none⟩ (.slice ao (B.pl k) c)) n gid st B (fun j' => if j' = k then .slice ao (B.pl k) c else Y j') (k + 1) (upd F k 5 (.slice ao (B.pl k) c)) := by
  obtain ⟨h1, h2, h3, h4⟩ := ha
  have hW : w.heap.size + 2 ≤ W.heap.size := by
    have := block_lt (h.rc.row k 0 hk (by omega))
    simp only at this
    omega
  have s5 : St w w5 n gid st B Y k F := (h.drewOne (by omega)).below (by omega) h4
  refine ⟨s5.rc.setField hk (by omega) _, fun j hj => ?_, s5.bl.setCell (by show w.heap.size ≤ w.heap.size + 1; omega) _⟩
  have ho : Only w5 (w5.setCell ⟨w.heap.size + 1, k * 9 + 5, none⟩ (.slice ao (B.pl k) c)) w.heap.size (w.heap.size + 1) := (Only.refl _ _ _).set (Or.inr rfl) _
  by_cases e : j = k
  · subst e
    simp only [if_true]
    exact PayAt.only ⟨ao, c, rfl, h1, h2, fun x hx => by have := h3 x hx; exact Nat.le_trans hW this⟩ ho (by omega) (by omega)
  · simp only [e, if_false]
    exact (s5.py j (by omega)).only ho (by omega) (by omega)

/-- zzCloneBytes once more, with where its copy lies -/
theorem clone_at (pa : Option Addr) (pl pc : Nat) (z : Nat → Int) (w : World) (hpl : pl ≤ 1048576) (hnil : pa = none → pl = 0 ∧ pc = 0) (ha : BytesAt w pa pl z) :
    Calls Trym.prog 10 #[.slice pa pl pc] w fun e w' => ∃ ao c, e = .returned (.slice ao pl c) ∧ ao.isNone = pa.isNone ∧ BytesAt w' ao pl z ∧ (∀ x, ao = some x → w.heap.size ≤ x.block) ∧ Below w.heap.size w w' := by
  cases pa with
  | none =>
    obtain ⟨rfl, rfl⟩ := hnil rfl
    refine (clone_nil w).mono ?_
    rintro e w' ⟨rfl, rfl⟩
    exact ⟨none, 0, rfl, rfl, ha, (fun x hx => by cases hx), Below.refl _ _⟩
  | some x =>
    refine (clone_some x pl pc z w hpl ha).mono ?_
    rintro e w' ⟨rfl, h1, h2⟩
    exact ⟨_, pl, rfl, rfl, h1, (fun y hy => by cases hy; exact Nat.le_refl _), h2⟩

/-- all nine cells of row k are written -/
theorem row_done (B : Bs) (Y : Nat → Value) (k : Nat) (y : Value) (j f : Nat) (hf : f < 9) :
    upd (upd (upd (upd (upd (upd (upRow B Y k) k 0 (.int .i64 (B.br k))) k 1 (.string (B.ac k))) k 5 y) k 6 (.string (B.st k))) k 7 (.int .i64 (B.at_ k))) k 8 (.string (B.le k)) j f = upRow B (fun j' => if j' = k then y else Y j') (k + 1) j f := by
  unfold upd upRow
  by_cases e : j = k
  · subst e
    have h1 : ¬ j < j := by omega
    have h2 : j < j + 1 := by omega
    simp only [h1, h2, true_and, if_true, if_false]
    unfold fields zeroB
    obtain rfl | rfl | rfl | rfl | rfl | rfl | rfl | rfl | rfl : f = 0 ∨ f = 1 ∨ f = 2 ∨ f = 3 ∨ f = 4 ∨ f = 5 ∨ f = 6 ∨ f = 7 ∨ f = 8 := by omega
    all_goals simp
  · have h1 : (j < k + 1) ↔ (j < k) := by omega
    simp only [e, h1, false_and, if_false]
    by_cases hj : j < k
    · rw [if_pos hj, if_pos hj]
      unfold fields
      simp [e]
    · rw [if_neg hj, if_neg hj]

set_option maxRecDepth 100000 in
set_option maxHeartbeats 1000000 in
theorem build_any (gid st : ByteArray) (b off n bc : Nat) (B : Bs) (w : World) (hn : n ≤ 1048576) (hn0 : 0 < n) (hin : In w b off n B) (hpl : ∀ k, k < n → B.pl k ≤ 1048576) (hnil : ∀ k, k < n → B.pa k = none → B.pl k = 0 ∧ B.pc k = 0) :
    Calls Trym.prog 6 #[.string gid, .string st, .slice (some ⟨b, off, none⟩) n bc] w fun e w' => e = .returned (.pointer (some ⟨w.heap.size, 0, none⟩)) ∧
      ∃ Y, Rec w' w.heap.size (w.heap.size + 1) n gid st (.pointer none) (fields B Y B.st) ∧ (∀ k, k < n → PayAt w' (Y k) (B.pa k).isNone (B.pl k) (B.pz k) (w.heap.size + 2)) ∧ Below w.heap.size w w' := by
  obtain ⟨i0, hi, hz0, hz1, hz2⟩ := info_parts info51'
  have hne := fun w => run_neq_slice_nil_any (P := Trym.prog) w 22 34 (some ⟨b, off, none⟩) n bc 0 0 Trym.underlying22
  have HIn := hideIt hin
  have HL := hideIt hpl
  have HN := hideIt hnil
  have hbw : b < w.heap.size := block_lt (hin.c0 0 hn0)
  clear hin hpl hnil
  go_enter Trym.func6, Trym.ntmps6
  go_wp2_with (first | (at_make; refine wpList_make_full _ rfl _ _ 28 rfl (w.heap.size + 1) 51 i0 _ 9 Trym.underlying28 hi hz0 hz1 .i64 .i64 _ _ n rfl rfl rfl rfl (by rw [hz2]; omega) (by unfold maxLen; omega) (by simp) ?_; intro w1 hown hgrow; obtain ⟨hr0, hrec, hbel⟩ := rec_start (gid := gid) (st := st) hn0 (own_size hown) (fun k f hk hf => made_at n k f hk hf) hgrow; have c20 := cell_in hr0 20; have f20 := free_in hr0 20; simp [rec0] at c20; have HR := hideIt hrec; have HB := hideIt hbel; clear hown hgrow hr0 hrec hbel))
  clear c20 f20 hne hi hz0 hz1 hz2
  go_loopw [8] (fun t wr => ∃ k : Nat, ∃ Y : Nat → Value, k ≤ n ∧ t = .int .i64 k ∧ St w wr n gid st B Y k (upRow B Y k)) (fun t _ => n - (intOf t).toNat)
  case atStart => exact ⟨0, fun _ => .slice none 0 0, Nat.zero_le _, rfl, HR.out.congr (fun k j _ _ => by unfold upRow; rw [if_neg (by omega)]), fun j hj => absurd hj (by omega), HB.out⟩
  case round =>
    clear HR HB
    obtain ⟨k, Y, hk, rfl, hst⟩ := hrel
    have S0 := hideIt hst
    clear hst
    by_cases hlt : k < n
    · have i1 : (k : Int) < (n : Int) := by omega
      have c20 := S0.out.rc.b
      obtain ⟨tv1, t⟩ : ∃ tv, wr.cell? ⟨w.heap.size + 1, k * 9, none⟩ = some tv := S0.out.cellThere hlt (show 0 < 9 by omega)
      have fz : wr.frozen? ⟨w.heap.size + 1, k * 9, none⟩ = false := S0.out.rc.fq (k * 9)
      have v := (HIn.out.below S0.out.bl).c0 k hlt
      go_wp2
      go_region
      clear c20 t fz v
      have S1 := hideIt ((S0.out.set0 hlt (.int .i64 (B.br k))).drewOne hn0)
      obtain ⟨W1, HW⟩ : ∃ X, Hid ((wr.setCell ⟨w.heap.size + 1, k * 9, none⟩ (.int .i64 (B.br k))).drew = X) := ⟨_, (rfl : _ = _)⟩
      rw [HW.out] at S1 ⊢
      clear HW S0
      have c20 := S1.out.rc.b
      obtain ⟨tv2, t⟩ : ∃ tv, W1.cell? ⟨w.heap.size + 1, k * 9 + 1, none⟩ = some tv := S1.out.cellThere hlt (show 1 < 9 by omega)
      have fz : W1.frozen? ⟨w.heap.size + 1, k * 9 + 1, none⟩ = false := S1.out.rc.fq (k * 9 + 1)
      have v := (HIn.out.below S1.out.bl).c1 k hlt
      go_wp2
      go_region
      clear c20 t fz v
      have S2 := hideIt ((S1.out.set hlt (show 1 < 9 by omega) (.string (B.ac k))).drewOne hn0)
      obtain ⟨W2, HW⟩ : ∃ X, Hid ((W1.setCell ⟨w.heap.size + 1, k * 9 + 1, none⟩ (.string (B.ac k))).drew = X) := ⟨_, (rfl : _ = _)⟩
      rw [HW.out] at S2 ⊢
      clear HW S1
      have c20 := S2.out.rc.b
      obtain ⟨tv3, t⟩ : ∃ tv, W2.cell? ⟨w.heap.size + 1, k * 9 + 5, none⟩ = some tv := S2.out.cellThere hlt (show 5 < 9 by omega)
      have fz : W2.frozen? ⟨w.heap.size + 1, k * 9 + 5, none⟩ = false := S2.out.rc.fq (k * 9 + 5)
      have I2 := hideIt (HIn.out.below S2.out.bl)
      have v := I2.out.c2 k hlt
      have HC := hideIt (clone_at (B.pa k) (B.pl k) (B.pc k) (B.pz k) W2.drew (HL.out k hlt) (HN.out k hlt) ((I2.out.pay k hlt).below (Below.refl _ _).drew))
      go_wp2
      go_region_held3 (fun w' => w'.cell? ⟨w.heap.size, 20, none⟩ = some (.slice (some ⟨w.heap.size + 1, 0, none⟩) n n) ∧ w'.cell? ⟨b, off + k * 6 + 2, none⟩ = some (.slice (B.pa k) (B.pl k) (B.pc k)) ∧ (∃ tv, w'.cell? ⟨w.heap.size + 1, k * 9 + 5, none⟩ = some tv) ∧ w'.frozen? ⟨w.heap.size + 1, k * 9 + 5, none⟩ = false) (first | exact S6.out | exact S5.out | exact ⟨c20, v, ⟨tv3, t⟩, fz⟩) (first | (go_at_call 10; refine HC.out.mono ?_; rintro e w5 ⟨ao, c, rfl, hao, hby, hge, hb5⟩; have HA := hideIt (And.intro hao (And.intro hby (And.intro hge hb5))); have S5 := hideIt (show (fun w' => w'.cell? ⟨w.heap.size, 20, none⟩ = some (.slice (some ⟨w.heap.size + 1, 0, none⟩) n n) ∧ w'.cell? ⟨b, off + k * 6 + 2, none⟩ = some (.slice (B.pa k) (B.pl k) (B.pc k)) ∧ (∃ tv, w'.cell? ⟨w.heap.size + 1, k * 9 + 5, none⟩ = some tv) ∧ w'.frozen? ⟨w.heap.size + 1, k * 9 + 5, none⟩ = false) w5 from ⟨(hb5.cell (block_lt c20)).trans c20, (hb5.cell (block_lt v)).trans v, ⟨tv3, (hb5.cell (block_lt t)).trans t⟩, (hb5.frozen (block_lt t)).trans fz⟩); have S6 := hideIt (show (fun w' => w'.cell? ⟨w.heap.size, 20, none⟩ = some (.slice (some ⟨w.heap.size + 1, 0, none⟩) n n) ∧ w'.cell? ⟨b, off + k * 6 + 2, none⟩ = some (.slice (B.pa k) (B.pl k) (B.pc k)) ∧ (∃ tv, w'.cell? ⟨w.heap.size + 1, k * 9 + 5, none⟩ = some tv) ∧ w'.frozen? ⟨w.heap.size + 1, k * 9 + 5, none⟩ = false) (w5.setCell ⟨w.heap.size + 1, k * 9 + 5, none⟩ (.slice ao (B.pl k) c)) from ⟨by rw [set_block (by show w.heap.size + 1 ≠ w.heap.size; omega)]; exact S5.out.1, by rw [set_block (by show w.heap.size + 1 ≠ b; omega)]; exact S5.out.2.1, ⟨_, set_same S5.out.2.2.1.choose_spec⟩, by rw [World.frozen?_setCell]; exact S5.out.2.2.2⟩); obtain ⟨tv5, t5⟩ := S5.out.2.2.1; have z5 := S5.out.2.2.2; clear hao hby hge hb5))
      have S3 := hideIt (S2.out.clone (c := c) hlt HA.out)
      obtain ⟨y, HY⟩ : ∃ y, Hid (Value.slice ao (B.pl k) c = y) := ⟨_, (rfl : _ = _)⟩
      obtain ⟨W3, HW⟩ : ∃ X, Hid (w5.setCell ⟨w.heap.size + 1, k * 9 + 5, none⟩ (.slice ao (B.pl k) c) = X) := ⟨_, (rfl : _ = _)⟩
      rw [HW.out] at S3 ⊢
      rw [HY.out] at S3
      clear HW S2 S5 S6 t5 z5 c20 v t fz HA HC I2
      have c20 := S3.out.rc.b
      obtain ⟨tv4, t⟩ : ∃ tv, W3.cell? ⟨w.heap.size + 1, k * 9 + 6, none⟩ = some tv := S3.out.cellThere hlt (show 6 < 9 by omega)
      have fz : W3.frozen? ⟨w.heap.size + 1, k * 9 + 6, none⟩ = false := S3.out.rc.fq (k * 9 + 6)
      have v := (HIn.out.below S3.out.bl).c3 k hlt
      go_wp2
      go_region
      clear c20 t fz v
      have S4 := hideIt ((S3.out.set hlt (show 6 < 9 by omega) (.string (B.st k))).drewOne hn0)
      obtain ⟨W4, HW⟩ : ∃ X, Hid ((W3.setCell ⟨w.heap.size + 1, k * 9 + 6, none⟩ (.string (B.st k))).drew = X) := ⟨_, (rfl : _ = _)⟩
      rw [HW.out] at S4 ⊢
      clear HW S3
      have c20 := S4.out.rc.b
      obtain ⟨tv5, t⟩ : ∃ tv, W4.cell? ⟨w.heap.size + 1, k * 9 + 7, none⟩ = some tv := S4.out.cellThere hlt (show 7 < 9 by omega)
      have fz : W4.frozen? ⟨w.heap.size + 1, k * 9 + 7, none⟩ = false := S4.out.rc.fq (k * 9 + 7)
      have v := (HIn.out.below S4.out.bl).c4 k hlt
      go_wp2
      go_region
      clear c20 t fz v
      have S5 := hideIt ((S4.out.set hlt (show 7 < 9 by omega) (.int .i64 (B.at_ k))).drewOne hn0)
      obtain ⟨W5, HW⟩ : ∃ X, Hid ((W4.setCell ⟨w.heap.size + 1, k * 9 + 7, none⟩ (.int .i64 (B.at_ k))).drew = X) := ⟨_, (rfl : _ = _)⟩
      rw [HW.out] at S5 ⊢
      clear HW S4
      have c20 := S5.out.rc.b
      obtain ⟨tv6, t⟩ : ∃ tv, W5.cell? ⟨w.heap.size + 1, k * 9 + 8, none⟩ = some tv := S5.out.cellThere hlt (show 8 < 9 by omega)
      have fz : W5.frozen? ⟨w.heap.size + 1, k * 9 + 8, none⟩ = false := S5.out.rc.fq (k * 9 + 8)
      have v := (HIn.out.below S5.out.bl).c5 k hlt
      go_wp2
      go_region
      clear c20 t fz v
      have S6 := hideIt ((S5.out.set hlt (show 8 < 9 by omega) (.string (B.le k))).drewOne hn0)
      obtain ⟨W6, HW⟩ : ∃ X, Hid ((W5.setCell ⟨w.heap.size + 1, k * 9 + 8, none⟩ (.string (B.le k))).drew = X) := ⟨_, (rfl : _ = _)⟩
      rw [HW.out] at S6 ⊢
      clear HW S5
      go_wp2
      go_roundw
      case rel => exact ⟨k + 1, fun j' => if j' = k then y else Y j', by omega, by go_num, S6.out.congr (fun j f _ hf => row_done B Y k y j f hf)⟩
      case measure => simp [intOf]; omega
    · obtain rfl : k = n := by omega
      go_wp2
      go_ret
      exact ⟨rfl, Y, S0.out.rc.congr (fun j f hj _ => by unfold upRow; rw [if_pos hj]), S0.out.py, S0.out.bl⟩
end Go.Proofs.Qxb6614651aMods.sag
