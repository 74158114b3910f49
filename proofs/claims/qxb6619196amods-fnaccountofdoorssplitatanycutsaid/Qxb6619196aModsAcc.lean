/-
  THE WALK of 'accountOf' (function 11) : the doors lie in a row of the call's own.
-/
import Derived.Test.Qxb6619196aModsRows
import Derived.WalkKit
import Derived.ProofKit
import Derived.WalkSpells
import Derived.WalkLawsBesides
import Derived.Laws.CopyOwn
namespace Go.Proofs.Qxb6619196aMods.acd
open Go.ChangeShapes Go.WideShapes Go.ChangeAt Go.RowKit
set_option linter.unusedVariables false

theorem hideIt {p : Prop} (h : p) : Hid p := h
theorem info9 : (Trym.prog.info? 9).map (fun i => (i.zero, i.size, i.bytes)) = some (some (.string ⟨#[]⟩), 1, 16) := by kernel_rfl

def PW : ByteArray := ⟨#[112, 97, 115, 115, 119, 111, 114, 100]⟩
def PK : ByteArray := ⟨#[112, 97, 115, 115, 107, 101, 121]⟩
def OI : ByteArray := ⟨#[111, 105, 100, 99, 58]⟩
def door (P : Nat → ByteArray) (j : Nat) : ByteArray := OI ++ P j
def strs (L : List ByteArray) : List Value := L.map Value.string

/-- what accountOf has made so far: the doors 'L' in a row of its own, its two boxes 'A' and 'R' as they were laid, old memory untouched -/
structure Inv (w wr : World) (A R : Array Value) (v : Value) (L : List ByteArray) : Prop where
  own : wr.ownsRow (w.heap.size + 2) 9 1 v L.length (strs L)
  nn : v ≠ .slice none 0 0
  box : wr.heap[w.heap.size]? = some (.cells A 33 (0, 0))
  res : wr.heap[w.heap.size + 1]? = some (.cells R 26 (0, 0))
  bel : Below w.heap.size w wr

theorem heap_alloc_lt (w : World) (o : Obj) (k : Nat) (h : k < w.heap.size) : (w.alloc o).heap[k]? = w.heap[k]? := Below.heap_alloc w o k h
theorem heap_alloc_eq (w : World) (o : Obj) : (w.alloc o).heap[w.heap.size]? = some o := by
  show (w.heap.push o)[w.heap.size]? = _
  simp

theorem inv_start (w : World) (A R : Array Value) : Inv w (((w.alloc (.cells A 33)).alloc (.cells R 26)).alloc (.cells #[] 9)) A R (.slice (some ⟨w.heap.size + 1 + 1, 0, none⟩) 0 0) [] := by
  have s1 : (w.alloc (.cells A 33)).heap.size = w.heap.size + 1 := by simp
  have s2 : ((w.alloc (.cells A 33)).alloc (.cells R 26)).heap.size = w.heap.size + 1 + 1 := by simp
  refine ⟨⟨by simp [strs], .inr ⟨w.heap.size + 1 + 1, 0, #[], rfl, by omega, ?_, Nat.le_refl _, Nat.zero_le _, rfl, rfl⟩⟩, by simp, ?_, ?_, ?_⟩
  · have := heap_alloc_eq ((w.alloc (.cells A 33)).alloc (.cells R 26)) (.cells #[] 9)
    rw [s2] at this; exact this
  · rw [heap_alloc_lt _ _ _ (by rw [s2]; omega), heap_alloc_lt _ _ _ (by rw [s1]; omega)]; exact heap_alloc_eq _ _
  · rw [heap_alloc_lt _ _ _ (by rw [s2]; omega)]
    have := heap_alloc_eq (w.alloc (.cells A 33)) (.cells R 26)
    rw [s1] at this; exact this
  · exact (((Below.refl _ _).alloc (Nat.le_refl _) _).alloc (by simp) _).alloc (by simp; omega) _

theorem inv_size {w wr : World} {A R : Array Value} {v : Value} {L : List ByteArray} (h : Inv w wr A R v L) : w.heap.size + 2 ≤ wr.heap.size := by
  have := (Array.getElem?_eq_some_iff.1 h.res).1
  omega

theorem inv_shape {w wr : World} {A R : Array Value} {v : Value} {L : List ByteArray} (h : Inv w wr A R v L) : ∃ g n cap, v = .slice (some ⟨g, 0, none⟩) n cap ∧ Hid (n = L.length) ∧ w.heap.size + 2 ≤ g := by
  rcases h.own.2 with ⟨e, _⟩ | ⟨g, cap, cur, e, hg, _⟩
  · exact absurd e h.nn
  · exact ⟨g, L.length, cap, e, (rfl : L.length = L.length), hg⟩

theorem inv_push {w wr w' : World} {A R : Array Value} {v v' : Value} {L : List ByteArray} {s : ByteArray} {o : Obj} (h : Inv w wr A R v L)
    (hown : w'.ownsRow (w.heap.size + 2) 9 1 v' (L.length + 1) (strs L ++ [.string s])) (hgrow : (wr.alloc o).grownBy w' v.ownBlock)
    (hnil : v' = .slice none 0 0 ↔ v = .slice none 0 0 ∧ 1 = 0) : Inv w w' A R v' (L ++ [s]) := by
  have hs := inv_size h
  have hrow : ∀ k, v.ownBlock = some k → w.heap.size + 2 ≤ k := by
    intro k hk
    rcases h.own.2 with ⟨rfl, _⟩ | ⟨g, cap, cur, rfl, hg, _⟩
    · simp [Value.ownBlock] at hk
    · simp [Value.ownBlock] at hk; omega
  have hkeep : ∀ k, k < w.heap.size + 2 → w'.heap[k]? = wr.heap[k]? := by
    intro k hk
    rw [hgrow.block k (by simp; omega) (fun e => by have := hrow k e.symm; omega)]
    exact heap_alloc_lt _ _ _ (by omega)
  refine ⟨?_, fun e => by have := (hnil.1 e).2; omega, ?_, ?_, ?_⟩
  · have e1 : (L ++ [s]).length = L.length + 1 := by simp
    have e2 : strs (L ++ [s]) = strs L ++ [.string s] := by simp [strs]
    rw [e1, e2]; exact hown
  · rw [hkeep _ (by omega)]; exact h.box
  · rw [hkeep _ (by omega)]; exact h.res
  · exact (h.bel.alloc (by omega) o).grown hgrow (by simp; omega) (fun k hk => by have := hrow k hk; omega)

/-- the cells of the two boxes, in the walk's words -/
theorem cell_in {w : World} {g : Nat} {A : Array Value} {t : TypeId} (h : w.heap[g]? = some (.cells A t (0, 0))) (k : Nat) : w.cell? ⟨g, k, none⟩ = A[k]? := by
  unfold World.cell?
  rw [h]
  rfl
theorem free_in {w : World} {g : Nat} {A : Array Value} {t : TypeId} (h : w.heap[g]? = some (.cells A t (0, 0))) (k : Nat) : w.frozen? ⟨g, k, none⟩ = false := by
  unfold World.frozen?
  rw [h]
  simp

theorem cell_one (w : World) (v : Value) : ∀ j u, [v][j]? = some u → (w.alloc (.cells #[v] 9)).cell? ((⟨w.heap.size, 0, none⟩ : Addr).add j) = some u := by
  intro j u hj
  match j, hj with
  | 0, hj => simp at hj; subst hj; simp [Addr.add]

theorem app_inv {w wr : World} {A R : Array Value} {v : Value} {L : List ByteArray} {s : ByteArray} {ops : Array Oper} {rest : List Oper} {o : Oper} {a : Act} {Q : Exit → Act → World → Prop} (hgd : o.guard = none) (sx x : Operand)
    (ho : o.op = .call { callee := .builtin .append, args := #[sx, x], argTypes := #[22, 22] }) (hinv : Inv w wr A R v L) (hs : a.eval sx = v) (g : Nat) (hg : g = wr.heap.size) (hx : a.eval x = .slice (some ⟨g, 0, none⟩) 1 1)
    (hL : L.length ≤ 2097152) (h : ∀ v' w', Inv w w' A R v' (L ++ [s]) → wpList Trym.prog ops Q rest (a.put o.dst v') w') : wpList Trym.prog ops Q (o :: rest) a (wr.alloc (.cells #[.string s] 9)) := by
  obtain ⟨i0, hi, hz0, hz1, hz2⟩ := info_parts info9
  subst hg
  have hsz := inv_size hinv
  exact wpList_append_own _ hgd sx x 22 ho (w.heap.size + 2) 9 i0 (.string ⟨#[]⟩) 1 16 Trym.underlying22 hi hz0 hz1 hz2 rfl (by decide) v L.length (strs L) hs (hinv.own.alloc _) ⟨wr.heap.size, 0, none⟩ 1 1 [.string s] hx rfl
    (cell_one wr _) (fun u hu => by simp at hu; subst hu; rfl) (by unfold maxLen; omega) (by omega) (by simp; omega)
    (fun v' w' h2 h3 h4 => h v' w' (inv_push hinv h2 h3 h4))

/-- the doors behind k providers -/
def upTo (P : Nat → ByteArray) (L0 : List ByteArray) (k : Nat) : List ByteArray := L0 ++ (List.range k).map (door P)
theorem upTo_succ (P : Nat → ByteArray) (L0 : List ByteArray) (k : Nat) : upTo P L0 k ++ [OI ++ P k] = upTo P L0 (k + 1) := by
  simp [upTo, List.range_succ, door]
theorem upTo_len (P : Nat → ByteArray) (L0 : List ByteArray) (k : Nat) : (upTo P L0 k).length = L0.length + k := by simp [upTo]

/-- the row at the head of block g reads as the strings D -/
def HasRow (w : World) (g : Nat) (D : List ByteArray) : Prop := ∀ j s, D[j]? = some s → w.cell? ⟨g, j, none⟩ = some (.string s)

theorem inv_end {w wr : World} {A R : Array Value} {g n cap : Nat} {D : List ByteArray} (h : Inv w wr A R (.slice (some ⟨g, 0, none⟩) n cap) D) (hn : n = D.length) (x0 x1 x2 x3 x4 : Value) :
    HasRow (((((wr.setCell ⟨w.heap.size + 1, 0, none⟩ x0).setCell ⟨w.heap.size + 1, 1, none⟩ x1).setCell ⟨w.heap.size + 1, 2, none⟩ x2).setCell ⟨w.heap.size + 1, 3, none⟩ x3).setCell ⟨w.heap.size + 1, 4, none⟩ x4) g D ∧
    Below w.heap.size w (((((wr.setCell ⟨w.heap.size + 1, 0, none⟩ x0).setCell ⟨w.heap.size + 1, 1, none⟩ x1).setCell ⟨w.heap.size + 1, 2, none⟩ x2).setCell ⟨w.heap.size + 1, 3, none⟩ x3).setCell ⟨w.heap.size + 1, 4, none⟩ x4) := by
  subst hn
  have h1 := ownsRow_setCell_below h.own (a := ⟨w.heap.size + 1, 0, none⟩) (by show w.heap.size + 1 < w.heap.size + 2; omega) x0
  have h2 := ownsRow_setCell_below h1 (a := ⟨w.heap.size + 1, 1, none⟩) (by show w.heap.size + 1 < w.heap.size + 2; omega) x1
  have h3 := ownsRow_setCell_below h2 (a := ⟨w.heap.size + 1, 2, none⟩) (by show w.heap.size + 1 < w.heap.size + 2; omega) x2
  have h4 := ownsRow_setCell_below h3 (a := ⟨w.heap.size + 1, 3, none⟩) (by show w.heap.size + 1 < w.heap.size + 2; omega) x3
  have h5 := ownsRow_setCell_below h4 (a := ⟨w.heap.size + 1, 4, none⟩) (by show w.heap.size + 1 < w.heap.size + 2; omega) x4
  refine ⟨fun j s hj => ?_, ?_⟩
  · have hlt : j < D.length := (List.getElem?_eq_some_iff.1 hj).1
    rw [h5.cellAt j (by omega)]
    simp [strs, hj]
  · exact ((((h.bel.setCell (by show w.heap.size ≤ w.heap.size + 1; omega) _).setCell (by show w.heap.size ≤ w.heap.size + 1; omega) _).setCell (by show w.heap.size ≤ w.heap.size + 1; omega) _).setCell (by show w.heap.size ≤ w.heap.size + 1; omega) _).setCell (by show w.heap.size ≤ w.heap.size + 1; omega) _

/-- the providers that came in: 'pn' strings 'P' -/
def Gave (w : World) (pa : Option Addr) (pn : Nat) (P : Nat → ByteArray) : Prop :=
  0 < pn → ∃ b off, pa = some ⟨b, off, none⟩ ∧ ∀ k, k < pn → w.cell? ⟨b, off + k, none⟩ = some (.string (P k))

theorem block_lt {w : World} {a : Addr} {v : Value} (h : w.cell? a = some v) : a.block < w.heap.size := by
  unfold World.cell? at h
  cases e : w.heap[a.block]? with
  | none => rw [e] at h; simp at h
  | some o => exact (Array.getElem?_eq_some_iff.1 e).1

/-- what accountOf makes of a summary -/
def doors (pb : Bool) (P : Nat → ByteArray) (pn : Nat) (kb : Bool) : List ByteArray := upTo P (if pb then [PW] else []) pn ++ (if kb then [PK] else [])

def Made (w : World) (id em un : ByteArray) (ev : Bool) (D : List ByteArray) (e : Ending) (w' : World) : Prop :=
  ∃ g cap, e = .returned (.agg #[.string id, .string em, .bool ev, .string un, .slice (some ⟨g, 0, none⟩) D.length cap]) ∧ w.heap.size ≤ g ∧ HasRow w' g D ∧ Below w.heap.size w w'

set_option maxHeartbeats 1000000 in
theorem acc_true_true (id em un : ByteArray) (ev : Bool) (pa : Option Addr) (pn pc : Nat) (P : Nat → ByteArray) (w : World) (hpn : pn ≤ 1048576)
    (hcell : Gave w pa pn P) (hsz : ∀ k, k < pn → (P k).size ≤ 1048576) :
    Calls Trym.prog 11 #[.agg #[.string id, .string em, .bool ev, .string un, .bool true, .slice pa pn pc, .bool true]] w fun e w' => Made w id em un ev (doors true P pn true) e w' := by
  have HC := hideIt hcell
  have HS := hideIt hsz
  clear hcell hsz
  obtain ⟨A, hA⟩ : ∃ A : Array Value, A = #[.string id, .string em, .bool ev, .string un, .bool true, .slice pa pn pc, .bool true] := ⟨_, rfl⟩
  obtain ⟨R, hR⟩ : ∃ R : Array Value, R = #[.string ⟨#[]⟩, .string ⟨#[]⟩, .bool false, .string ⟨#[]⟩, .slice none 0 0] := ⟨_, rfl⟩
  have HI : Hid (Inv w _ A R _ []) := inv_start w A R
  rw [hA, hR] at HI
  go_enter Trym.func11, Trym.ntmps11
  go_wp2_with (first | (at_builtin; refine app_inv rfl (.tmp 9) (.tmp 10) rfl HI.out rfl _ (by simp) rfl (by simp) ?_; intro v1 w1 hinv1; rw [← hA, ← hR] at hinv1; have hcells1 := cell_in hinv1.box; rw [hA] at hcells1; have HI1 := hideIt hinv1; clear hinv1 HI))
  rw [List.nil_append] at HI1
  clear hcells1
  go_loopw [3, 15] (fun v i wr => ∃ k : Nat, k ≤ pn ∧ i = .int .i64 k ∧ Inv w wr A R v (upTo P [PW] k)) (fun _ i _ => pn - (intOf i).toNat)
  case atStart => exact ⟨0, Nat.zero_le _, rfl, by simpa [upTo, PW] using HI1.out⟩
  case round =>
    clear HI1
    obtain ⟨k, hk, rfl, hinv⟩ := hrel
    have HI := hideIt hinv
    clear hinv
    by_cases hlt : k < pn
    · obtain ⟨b, off, rfl, hcl⟩ := HC.out (by omega)
      have hck : wr.cell? ⟨b, off + k, none⟩ = some (.string (P k)) := by rw [HI.out.bel.cell (block_lt (hcl k hlt))]; exact hcl k hlt
      have hadd := fun w => run_string_add_sum (P := Trym.prog) w ⟨#[111, 105, 100, 99, 58]⟩ (P k) (by have := HS.out k hlt; show 5 + (P k).size ≤ 9223372036854775807; omega)
      clear hcl
      go_wp2_with (first | (at_builtin; refine app_inv rfl (.tmp 19) (.tmp 22) rfl HI.out rfl _ (by simp) rfl (by rw [upTo_len]; simp; omega) ?_; intro v2 w2 hinv2; have HI2 := hideIt hinv2; clear hinv2 HI hadd hck))
      go_roundw
      case rel => exact ⟨k + 1, by omega, by go_num, by rw [← upTo_succ]; exact HI2.out⟩
      case measure => simp [intOf]; omega
    · obtain rfl : k = pn := by omega
      have hcb := cell_in HI.out.box
      rw [hA] at hcb
      have c6 := hcb 6
      simp at c6
      clear hcb
      go_wp2_with (first | (at_builtin; refine app_inv rfl (.tmp 27) (.tmp 28) rfl HI.out rfl _ (by simp) rfl (by rw [upTo_len]; simp; omega) ?_; intro v2 w2 hinv20; have hinv2 : Inv w w2 A R v2 (upTo P [PW] k ++ [PK]) := hinv20; obtain ⟨g, nd, cap, rfl, HN, hgb⟩ := inv_shape hinv2; have HI2 := hideIt hinv2; clear hinv20 hinv2 HI c6; have hcb := cell_in HI2.out.box; have hcr := cell_in HI2.out.res; have hfr := free_in HI2.out.res; rw [hA] at hcb; rw [hR] at hcr; have b0 := hcb 0; have b1 := hcb 1; have b2 := hcb 2; have b3 := hcb 3; have b6 := hcb 6; have r0 := hcr 0; have r1 := hcr 1; have r2 := hcr 2; have r3 := hcr 3; have r4 := hcr 4; simp at b0 b1 b2 b3 b6 r0 r1 r2 r3 r4; clear hcb hcr))
      have HE := hideIt (inv_end HI2.out HN.out (.string id) (.string em) (.bool ev) (.string un) (.slice (some ⟨g, 0, none⟩) nd cap))
      have eD : doors true P k true = upTo P [PW] k ++ [PK] := by simp [doors]
      rw [eD]
      exact bodyPost_ret (v := .agg #[.string id, .string em, .bool ev, .string un, .slice (some ⟨g, 0, none⟩) nd cap]) (by simp [results, Trym.results11, go_sem, r0, r1, r2, r3, r4]) rfl ⟨g, cap, by rw [HN.out], by omega, HE.out.1, HE.out.2⟩

set_option maxHeartbeats 1000000 in
theorem acc_true_false (id em un : ByteArray) (ev : Bool) (pa : Option Addr) (pn pc : Nat) (P : Nat → ByteArray) (w : World) (hpn : pn ≤ 1048576)
    (hcell : Gave w pa pn P) (hsz : ∀ k, k < pn → (P k).size ≤ 1048576) :
    Calls Trym.prog 11 #[.agg #[.string id, .string em, .bool ev, .string un, .bool true, .slice pa pn pc, .bool false]] w fun e w' => Made w id em un ev (doors true P pn false) e w' := by
  have HC := hideIt hcell
  have HS := hideIt hsz
  clear hcell hsz
  obtain ⟨A, hA⟩ : ∃ A : Array Value, A = #[.string id, .string em, .bool ev, .string un, .bool true, .slice pa pn pc, .bool false] := ⟨_, rfl⟩
  obtain ⟨R, hR⟩ : ∃ R : Array Value, R = #[.string ⟨#[]⟩, .string ⟨#[]⟩, .bool false, .string ⟨#[]⟩, .slice none 0 0] := ⟨_, rfl⟩
  have HI : Hid (Inv w _ A R _ []) := inv_start w A R
  rw [hA, hR] at HI
  go_enter Trym.func11, Trym.ntmps11
  go_wp2_with (first | (at_builtin; refine app_inv rfl (.tmp 9) (.tmp 10) rfl HI.out rfl _ (by simp) rfl (by simp) ?_; intro v1 w1 hinv1; rw [← hA, ← hR] at hinv1; have hcells1 := cell_in hinv1.box; rw [hA] at hcells1; have HI1 := hideIt hinv1; clear hinv1 HI))
  rw [List.nil_append] at HI1
  clear hcells1
  go_loopw [3, 15] (fun v i wr => ∃ k : Nat, k ≤ pn ∧ i = .int .i64 k ∧ Inv w wr A R v (upTo P [PW] k)) (fun _ i _ => pn - (intOf i).toNat)
  case atStart => exact ⟨0, Nat.zero_le _, rfl, by simpa [upTo, PW] using HI1.out⟩
  case round =>
    clear HI1
    obtain ⟨k, hk, rfl, hinv⟩ := hrel
    have HI := hideIt hinv
    clear hinv
    by_cases hlt : k < pn
    · obtain ⟨b, off, rfl, hcl⟩ := HC.out (by omega)
      have hck : wr.cell? ⟨b, off + k, none⟩ = some (.string (P k)) := by rw [HI.out.bel.cell (block_lt (hcl k hlt))]; exact hcl k hlt
      have hadd := fun w => run_string_add_sum (P := Trym.prog) w ⟨#[111, 105, 100, 99, 58]⟩ (P k) (by have := HS.out k hlt; show 5 + (P k).size ≤ 9223372036854775807; omega)
      clear hcl
      go_wp2_with (first | (at_builtin; refine app_inv rfl (.tmp 19) (.tmp 22) rfl HI.out rfl _ (by simp) rfl (by rw [upTo_len]; simp; omega) ?_; intro v2 w2 hinv2; have HI2 := hideIt hinv2; clear hinv2 HI hadd hck))
      go_roundw
      case rel => exact ⟨k + 1, by omega, by go_num, by rw [← upTo_succ]; exact HI2.out⟩
      case measure => simp [intOf]; omega
    · obtain rfl : k = pn := by omega
      obtain ⟨g, nd, cap, rfl, HN, hgb⟩ := inv_shape HI.out
      have hcb := cell_in HI.out.box
      have hcr := cell_in HI.out.res
      have hfr := free_in HI.out.res
      rw [hA] at hcb
      rw [hR] at hcr
      have b0 := hcb 0
      have b1 := hcb 1
      have b2 := hcb 2
      have b3 := hcb 3
      have b6 := hcb 6
      have r0 := hcr 0
      have r1 := hcr 1
      have r2 := hcr 2
      have r3 := hcr 3
      have r4 := hcr 4
      simp at b0 b1 b2 b3 b6 r0 r1 r2 r3 r4
      clear hcb hcr
      have HE := hideIt (inv_end HI.out HN.out (.string id) (.string em) (.bool ev) (.string un) (.slice (some ⟨g, 0, none⟩) nd cap))
      clear HI
      go_wp2
      have eD : doors true P k false = upTo P [PW] k := by simp [doors]
      rw [eD]
      exact bodyPost_ret (v := .agg #[.string id, .string em, .bool ev, .string un, .slice (some ⟨g, 0, none⟩) nd cap]) (by simp [results, Trym.results11, go_sem, r0, r1, r2, r3, r4]) rfl ⟨g, cap, by rw [HN.out], by omega, HE.out.1, HE.out.2⟩

set_option maxHeartbeats 1000000 in
theorem acc_false_true (id em un : ByteArray) (ev : Bool) (pa : Option Addr) (pn pc : Nat) (P : Nat → ByteArray) (w : World) (hpn : pn ≤ 1048576)
    (hcell : Gave w pa pn P) (hsz : ∀ k, k < pn → (P k).size ≤ 1048576) :
    Calls Trym.prog 11 #[.agg #[.string id, .string em, .bool ev, .string un, .bool false, .slice pa pn pc, .bool true]] w fun e w' => Made w id em un ev (doors false P pn true) e w' := by
  have HC := hideIt hcell
  have HS := hideIt hsz
  clear hcell hsz
  obtain ⟨A, hA⟩ : ∃ A : Array Value, A = #[.string id, .string em, .bool ev, .string un, .bool false, .slice pa pn pc, .bool true] := ⟨_, rfl⟩
  obtain ⟨R, hR⟩ : ∃ R : Array Value, R = #[.string ⟨#[]⟩, .string ⟨#[]⟩, .bool false, .string ⟨#[]⟩, .slice none 0 0] := ⟨_, rfl⟩
  have HI : Hid (Inv w _ A R _ []) := inv_start w A R
  rw [hA, hR] at HI
  go_enter Trym.func11, Trym.ntmps11
  go_wp2_with (first | (at_builtin; fail))
  have HI1 := HI
  rw [← hA, ← hR] at HI1
  clear HI
  go_loopw [3, 15] (fun v i wr => ∃ k : Nat, k ≤ pn ∧ i = .int .i64 k ∧ Inv w wr A R v (upTo P [] k)) (fun _ i _ => pn - (intOf i).toNat)
  case atStart => exact ⟨0, Nat.zero_le _, rfl, by have := HI1.out; rw [hA, hR] at this ⊢; simpa [upTo] using this⟩
  case round =>
    clear HI1
    obtain ⟨k, hk, rfl, hinv⟩ := hrel
    have HI := hideIt hinv
    clear hinv
    by_cases hlt : k < pn
    · obtain ⟨b, off, rfl, hcl⟩ := HC.out (by omega)
      have hck : wr.cell? ⟨b, off + k, none⟩ = some (.string (P k)) := by rw [HI.out.bel.cell (block_lt (hcl k hlt))]; exact hcl k hlt
      have hadd := fun w => run_string_add_sum (P := Trym.prog) w ⟨#[111, 105, 100, 99, 58]⟩ (P k) (by have := HS.out k hlt; show 5 + (P k).size ≤ 9223372036854775807; omega)
      clear hcl
      go_wp2_with (first | (at_builtin; refine app_inv rfl (.tmp 19) (.tmp 22) rfl HI.out rfl _ (by simp) rfl (by rw [upTo_len]; simp; omega) ?_; intro v2 w2 hinv2; have HI2 := hideIt hinv2; clear hinv2 HI hadd hck))
      go_roundw
      case rel => exact ⟨k + 1, by omega, by go_num, by rw [← upTo_succ]; exact HI2.out⟩
      case measure => simp [intOf]; omega
    · obtain rfl : k = pn := by omega
      have hcb := cell_in HI.out.box
      rw [hA] at hcb
      have c6 := hcb 6
      simp at c6
      clear hcb
      go_wp2_with (first | (at_builtin; refine app_inv rfl (.tmp 27) (.tmp 28) rfl HI.out rfl _ (by simp) rfl (by rw [upTo_len]; simp; omega) ?_; intro v2 w2 hinv20; have hinv2 : Inv w w2 A R v2 (upTo P [] k ++ [PK]) := hinv20; obtain ⟨g, nd, cap, rfl, HN, hgb⟩ := inv_shape hinv2; have HI2 := hideIt hinv2; clear hinv20 hinv2 HI c6; have hcb := cell_in HI2.out.box; have hcr := cell_in HI2.out.res; have hfr := free_in HI2.out.res; rw [hA] at hcb; rw [hR] at hcr; have b0 := hcb 0; have b1 := hcb 1; have b2 := hcb 2; have b3 := hcb 3; have b6 := hcb 6; have r0 := hcr 0; have r1 := hcr 1; have r2 := hcr 2; have r3 := hcr 3; have r4 := hcr 4; simp at b0 b1 b2 b3 b6 r0 r1 r2 r3 r4; clear hcb hcr))
      have HE := hideIt (inv_end HI2.out HN.out (.string id) (.string em) (.bool ev) (.string un) (.slice (some ⟨g, 0, none⟩) nd cap))
      have eD : doors false P k true = upTo P [] k ++ [PK] := by simp [doors]
      rw [eD]
      exact bodyPost_ret (v := .agg #[.string id, .string em, .bool ev, .string un, .slice (some ⟨g, 0, none⟩) nd cap]) (by simp [results, Trym.results11, go_sem, r0, r1, r2, r3, r4]) rfl ⟨g, cap, by rw [HN.out], by omega, HE.out.1, HE.out.2⟩

set_option maxHeartbeats 1000000 in
theorem acc_false_false (id em un : ByteArray) (ev : Bool) (pa : Option Addr) (pn pc : Nat) (P : Nat → ByteArray) (w : World) (hpn : pn ≤ 1048576)
    (hcell : Gave w pa pn P) (hsz : ∀ k, k < pn → (P k).size ≤ 1048576) :
    Calls Trym.prog 11 #[.agg #[.string id, .string em, .bool ev, .string un, .bool false, .slice pa pn pc, .bool false]] w fun e w' => Made w id em un ev (doors false P pn false) e w' := by
  have HC := hideIt hcell
  have HS := hideIt hsz
  clear hcell hsz
  obtain ⟨A, hA⟩ : ∃ A : Array Value, A = #[.string id, .string em, .bool ev, .string un, .bool false, .slice pa pn pc, .bool false] := ⟨_, rfl⟩
  obtain ⟨R, hR⟩ : ∃ R : Array Value, R = #[.string ⟨#[]⟩, .string ⟨#[]⟩, .bool false, .string ⟨#[]⟩, .slice none 0 0] := ⟨_, rfl⟩
  have HI : Hid (Inv w _ A R _ []) := inv_start w A R
  rw [hA, hR] at HI
  go_enter Trym.func11, Trym.ntmps11
  go_wp2_with (first | (at_builtin; fail))
  have HI1 := HI
  rw [← hA, ← hR] at HI1
  clear HI
  go_loopw [3, 15] (fun v i wr => ∃ k : Nat, k ≤ pn ∧ i = .int .i64 k ∧ Inv w wr A R v (upTo P [] k)) (fun _ i _ => pn - (intOf i).toNat)
  case atStart => exact ⟨0, Nat.zero_le _, rfl, by have := HI1.out; rw [hA, hR] at this ⊢; simpa [upTo] using this⟩
  case round =>
    clear HI1
    obtain ⟨k, hk, rfl, hinv⟩ := hrel
    have HI := hideIt hinv
    clear hinv
    by_cases hlt : k < pn
    · obtain ⟨b, off, rfl, hcl⟩ := HC.out (by omega)
      have hck : wr.cell? ⟨b, off + k, none⟩ = some (.string (P k)) := by rw [HI.out.bel.cell (block_lt (hcl k hlt))]; exact hcl k hlt
      have hadd := fun w => run_string_add_sum (P := Trym.prog) w ⟨#[111, 105, 100, 99, 58]⟩ (P k) (by have := HS.out k hlt; show 5 + (P k).size ≤ 9223372036854775807; omega)
      clear hcl
      go_wp2_with (first | (at_builtin; refine app_inv rfl (.tmp 19) (.tmp 22) rfl HI.out rfl _ (by simp) rfl (by rw [upTo_len]; simp; omega) ?_; intro v2 w2 hinv2; have HI2 := hideIt hinv2; clear hinv2 HI hadd hck))
      go_roundw
      case rel => exact ⟨k + 1, by omega, by go_num, by rw [← upTo_succ]; exact HI2.out⟩
      case measure => simp [intOf]; omega
    · obtain rfl : k = pn := by omega
      obtain ⟨g, nd, cap, rfl, HN, hgb⟩ := inv_shape HI.out
      have hcb := cell_in HI.out.box
      have hcr := cell_in HI.out.res
      have hfr := free_in HI.out.res
      rw [hA] at hcb
      rw [hR] at hcr
      have b0 := hcb 0
      have b1 := hcb 1
      have b2 := hcb 2
      have b3 := hcb 3
      have b6 := hcb 6
      have r0 := hcr 0
      have r1 := hcr 1
      have r2 := hcr 2
      have r3 := hcr 3
      have r4 := hcr 4
      simp at b0 b1 b2 b3 b6 r0 r1 r2 r3 r4
      clear hcb hcr
      have HE := hideIt (inv_end HI.out HN.out (.string id) (.string em) (.bool ev) (.string un) (.slice (some ⟨g, 0, none⟩) nd cap))
      clear HI
      go_wp2
      have eD : doors false P k false = upTo P [] k := by simp [doors]
      rw [eD]
      exact bodyPost_ret (v := .agg #[.string id, .string em, .bool ev, .string un, .slice (some ⟨g, 0, none⟩) nd cap]) (by simp [results, Trym.results11, go_sem, r0, r1, r2, r3, r4]) rfl ⟨g, cap, by rw [HN.out], by omega, HE.out.1, HE.out.2⟩

theorem acc_any (id em un : ByteArray) (ev pb kb : Bool) (pa : Option Addr) (pn pc : Nat) (P : Nat → ByteArray) (w : World) (hpn : pn ≤ 1048576)
    (hcell : Gave w pa pn P) (hsz : ∀ k, k < pn → (P k).size ≤ 1048576) :
    Calls Trym.prog 11 #[.agg #[.string id, .string em, .bool ev, .string un, .bool pb, .slice pa pn pc, .bool kb]] w fun e w' => Made w id em un ev (doors pb P pn kb) e w' := by
  cases pb <;> cases kb
  · exact acc_false_false id em un ev pa pn pc P w hpn hcell hsz
  · exact acc_false_true id em un ev pa pn pc P w hpn hcell hsz
  · exact acc_true_false id em un ev pa pn pc P w hpn hcell hsz
  · exact acc_true_true id em un ev pa pn pc P w hpn hcell hsz
end Go.Proofs.Qxb6619196aMods.acd
