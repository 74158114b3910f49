/-
  THE WALKS of turnBack (14), sagaRefused (11) and ZZsagaRefused (7), over a record in memory.
-/
import Derived.Test.Qxb6614651aModsBytes
import Derived.Laws.BytesArg
namespace Go.Proofs.Qxb6614651aMods.sag
open Go.ChangeShapes Go.WideShapes Go.ChangeAt Go.RowKit
set_option linter.unusedVariables false

def REFUSED : ByteArray := ⟨#[114, 101, 102, 117, 115, 101, 100]⟩
def SKIPPED : ByteArray := ⟨#[115, 107, 105, 112, 112, 101, 100]⟩
def COMP : ByteArray := ⟨#[99, 111, 109, 112, 101, 110, 115, 97, 116, 105, 110, 103]⟩

/-- a record at block r, its n branches in block q: 'F k j' is cell j of branch k -/
structure Rec (w : World) (r q n : Nat) (gid st : ByteArray) (rf : Value) (F : Nat → Nat → Value) : Prop where
  g : w.cell? ⟨r, 0, none⟩ = some (.string gid)
  s : w.cell? ⟨r, 2, none⟩ = some (.string st)
  f : w.cell? ⟨r, 16, none⟩ = some rf
  b : w.cell? ⟨r, 20, none⟩ = some (.slice (some ⟨q, 0, none⟩) n n)
  fr : ∀ j, w.frozen? ⟨r, j, none⟩ = false
  row : ∀ k j, k < n → j < 9 → w.cell? ⟨q, k * 9 + j, none⟩ = some (F k j)
  fq : ∀ j, w.frozen? ⟨q, j, none⟩ = false
  ne : r ≠ q

/-- only the blocks r and q have been written; there may be new blocks -/
structure Only (w w' : World) (r q : Nat) : Prop where
  os : w'.os = w.os
  tape : w'.tape = w.tape
  output : w'.output = w.output
  size : w.heap.size ≤ w'.heap.size
  block : ∀ k, k < w.heap.size → k ≠ r → k ≠ q → w'.heap[k]? = w.heap[k]?
theorem Only.refl (w : World) (r q : Nat) : Only w w r q := ⟨rfl, rfl, rfl, Nat.le_refl _, fun _ _ _ _ => rfl⟩
theorem Only.trans {a b c : World} {r q : Nat} (h : Only a b r q) (k : Only b c r q) : Only a c r q :=
  ⟨k.os.trans h.os, k.tape.trans h.tape, k.output.trans h.output, Nat.le_trans h.size k.size, fun i hi h1 h2 => (k.block i (Nat.lt_of_lt_of_le hi h.size) h1 h2).trans (h.block i hi h1 h2)⟩
theorem Only.of_below {w w' : World} {r q : Nat} (h : Below w.heap.size w w') : Only w w' r q := ⟨h.os, h.tape, h.output, h.size, fun k hk _ _ => h.block k hk⟩
theorem Only.set {a w : World} {r q : Nat} (h : Only a w r q) {p : Addr} (hp : p.block = r ∨ p.block = q) (v : Value) : Only a (w.setCell p v) r q :=
  h.trans ⟨rfl, rfl, rfl, by simp [World.setCell], fun k hk h1 h2 => Below.heap_setCell _ _ _ _ (by rcases hp with e | e <;> omega)⟩
theorem Only.below {w w' : World} {r q B : Nat} (h : Only w w' r q) (hB : B ≤ w.heap.size) (hr : B ≤ r) (hq : B ≤ q) : Below B w w' :=
  ⟨h.os, h.tape, h.output, h.size, fun k hk => h.block k (by omega) (by omega) (by omega)⟩
theorem Only.cell {w w' : World} {r q : Nat} (h : Only w w' r q) {p : Addr} {v : Value} (hc : w.cell? p = some v) (h1 : p.block ≠ r) (h2 : p.block ≠ q) : w'.cell? p = some v := by
  rw [World.cell?_of_block (w := w) (h.block p.block (block_lt hc) h1 h2)]; exact hc

/-- the status cells behind turnBack as far as branch m -/
def turned (F : Nat → Nat → Value) (i : Nat) (st : ByteArray) (m : Nat) : Nat → Nat → Value :=
  fun k j => if j = 6 ∧ i ≤ k ∧ k < m then (if k = i then .string st else .string SKIPPED) else F k j

theorem Rec.congr {w : World} {r q n : Nat} {gid st : ByteArray} {rf : Value} {F F' : Nat → Nat → Value} (h : Rec w r q n gid st rf F) (e : ∀ k j, k < n → j < 9 → F k j = F' k j) : Rec w r q n gid st rf F' :=
  ⟨h.g, h.s, h.f, h.b, h.fr, fun k j hk hj => by rw [← e k j hk hj]; exact h.row k j hk hj, h.fq, h.ne⟩
theorem Rec.setStatus {w : World} {r q n : Nat} {gid st : ByteArray} {rf : Value} {F : Nat → Nat → Value} (h : Rec w r q n gid st rf F) {k : Nat} (hk : k < n) (v : Value) :
    Rec (w.setCell ⟨q, k * 9 + 6, none⟩ v) r q n gid st rf (fun k' j => if k' = k ∧ j = 6 then v else F k' j) := by
  have hne := h.ne
  refine ⟨?_, ?_, ?_, ?_, fun j => by rw [World.frozen?_setCell]; exact h.fr j, fun k' j hk' hj => ?_, fun j => by rw [World.frozen?_setCell]; exact h.fq j, hne⟩
  · rw [set_block (fun e => hne e.symm)]; exact h.g
  · rw [set_block (fun e => hne e.symm)]; exact h.s
  · rw [set_block (fun e => hne e.symm)]; exact h.f
  · rw [set_block (fun e => hne e.symm)]; exact h.b
  · by_cases e : k' = k ∧ j = 6
    · obtain ⟨rfl, rfl⟩ := e
      rw [if_pos ⟨rfl, rfl⟩]
      exact set_same (h.row k' 6 hk' hj)
    · rw [if_neg e, set_off (by omega)]
      exact h.row k' j hk' hj
theorem Rec.setSt {w : World} {r q n : Nat} {gid st : ByteArray} {rf : Value} {F : Nat → Nat → Value} (h : Rec w r q n gid st rf F) (st' : ByteArray) :
    Rec (w.setCell ⟨r, 2, none⟩ (.string st')) r q n gid st' rf F := by
  have hne := h.ne
  refine ⟨?_, set_same h.s, ?_, ?_, fun j => by rw [World.frozen?_setCell]; exact h.fr j, fun k' j hk' hj => ?_, fun j => by rw [World.frozen?_setCell]; exact h.fq j, hne⟩
  · rw [set_off (by omega)]; exact h.g
  · rw [set_off (by omega)]; exact h.f
  · rw [set_off (by omega)]; exact h.b
  · rw [set_block (fun e => hne e)]; exact h.row k' j hk' hj
theorem Rec.setRf {w : World} {r q n : Nat} {gid st : ByteArray} {rf : Value} {F : Nat → Nat → Value} (h : Rec w r q n gid st rf F) (rf' : Value) :
    Rec (w.setCell ⟨r, 16, none⟩ rf') r q n gid st rf' F := by
  have hne := h.ne
  refine ⟨?_, ?_, set_same h.f, ?_, fun j => by rw [World.frozen?_setCell]; exact h.fr j, fun k' j hk' hj => ?_, fun j => by rw [World.frozen?_setCell]; exact h.fq j, hne⟩
  · rw [set_off (by omega)]; exact h.g
  · rw [set_off (by omega)]; exact h.s
  · rw [set_off (by omega)]; exact h.b
  · rw [set_block (fun e => hne e)]; exact h.row k' j hk' hj
theorem turned_first (F : Nat → Nat → Value) (i : Nat) (st : ByteArray) (k j : Nat) : (if k = i ∧ j = 6 then Value.string st else F k j) = turned F i st (i + 1) k j := by
  unfold turned
  by_cases h : k = i ∧ j = 6
  · rw [if_pos h, if_pos ⟨h.2, by omega, by omega⟩, if_pos h.1]
  · rw [if_neg h, if_neg (by omega)]
theorem turned_next (F : Nat → Nat → Value) (i : Nat) (st : ByteArray) (m : Nat) (hm : i < m) (k j : Nat) : (if k = m ∧ j = 6 then Value.string SKIPPED else turned F i st m k j) = turned F i st (m + 1) k j := by
  unfold turned
  by_cases h : k = m ∧ j = 6
  · rw [if_pos h, if_pos ⟨h.2, by omega, by omega⟩, if_neg (by omega)]
  · rw [if_neg h]
    by_cases h2 : j = 6 ∧ i ≤ k ∧ k < m
    · rw [if_pos h2, if_pos (show j = 6 ∧ i ≤ k ∧ k < m + 1 by omega)]
    · rw [if_neg h2, if_neg (show ¬ (j = 6 ∧ i ≤ k ∧ k < m + 1) by omega)]

theorem turn_any (r q n i : Nat) (gid st0 st : ByteArray) (rf : Value) (F : Nat → Nat → Value) (w : World) (hn : n ≤ 1048576) (hi : i < n) (hr : Rec w r q n gid st0 rf F) :
    Calls Trym.prog 14 #[.pointer (some ⟨r, 0, none⟩), .int .i64 i, .string st] w fun e w' => e = .returned (.slice (some ⟨q, i * 9, none⟩) (n - i) (n - i)) ∧ Rec w' r q n gid COMP rf (turned F i st n) ∧ Only w w' r q := by
  have HR := hideIt hr
  have c20 := hr.b
  have ci := hr.row i 6 hi (by omega)
  have fi := hr.fq (i * 9 + 6)
  have HQ := hideIt hr.ne
  clear hr
  have ii : (i : Int) < (n : Int) := by omega
  go_enter Trym.func14, Trym.ntmps14
  go_wp2
  clear ci fi c20
  go_loopw [7] (fun t wr => ∃ m : Nat, i + 1 ≤ m ∧ m ≤ n ∧ t = .int .i64 m ∧ Rec wr r q n gid st0 rf (turned F i st m) ∧ Only w wr r q) (fun t _ => n - (intOf t).toNat)
  case atStart => exact ⟨i + 1, by omega, by omega, by go_num, (HR.out.setStatus hi (.string st)).congr (fun k j _ _ => turned_first F i st k j), (Only.refl w r q).set (Or.inr rfl) _⟩
  case round =>
    clear HR
    obtain ⟨m, hm1, hm2, rfl, hrec, honly⟩ := hrel
    have HR := hideIt hrec
    have HO := hideIt honly
    have c20 := hrec.b
    clear honly
    by_cases hlt : m < n
    · have cm := hrec.row m 6 hlt (by omega)
      have fm := hrec.fq (m * 9 + 6)
      have im : (m : Int) < (n : Int) := by omega
      clear hrec
      go_wp2
      go_roundw
      case rel => exact ⟨m + 1, by omega, by omega, by go_num, (HR.out.setStatus hlt (.string SKIPPED)).congr (fun k j _ _ => turned_next F i st m (by omega) k j), HO.out.set (Or.inr rfl) _⟩
      case measure => simp [intOf]; omega
    · obtain rfl : m = n := by omega
      have c2 := hrec.s
      have f2 := hrec.fr 2
      clear hrec
      go_wp2
      go_ret
      exact ⟨rfl, HR.out.setSt COMP, HO.out.set (Or.inl rfl) _⟩

def ACTION : ByteArray := ⟨#[97, 99, 116, 105, 111, 110]⟩

theorem Rec.keep {w w' : World} {r q n : Nat} {gid st : ByteArray} {rf : Value} {F : Nat → Nat → Value} (h : Rec w r q n gid st rf F) (hn : 0 < n) (hb : Below w.heap.size w w') : Rec w' r q n gid st rf F := by
  have hq : q < w.heap.size := block_lt (h.row 0 0 hn (by omega))
  have hr : r < w.heap.size := block_lt h.g
  refine ⟨?_, ?_, ?_, ?_, fun j => ?_, fun k j hk hj => ?_, fun j => ?_, h.ne⟩
  · rw [hb.cell (by exact hr)]; exact h.g
  · rw [hb.cell (by exact hr)]; exact h.s
  · rw [hb.cell (by exact hr)]; exact h.f
  · rw [hb.cell (by exact hr)]; exact h.b
  · rw [hb.frozen (by exact hr)]; exact h.fr j
  · rw [hb.cell (by exact hq)]; exact h.row k j hk hj
  · rw [hb.frozen (by exact hq)]; exact h.fq j

/-- the reason as it is handed in: nil, or a row of bytes -/
def RAt (w : World) (ao : Option Addr) (pl : Nat) (z : Nat → Int) : Prop := (ao = none ∧ pl = 0) ∨ ∃ b off, ao = some ⟨b, off, none⟩ ∧ ∀ j, j < pl → w.cell? ⟨b, off + j, none⟩ = some (.int .u8 (z j))
def strOf (z : Nat → Int) (pl : Nat) : ByteArray := strOfNums ((List.range pl).map z)
theorem conv_any {w : World} {ao : Option Addr} {pl : Nat} {z : Nat → Int} (pc : Nat) (h : RAt w ao pl z) : (convert 23 9 (.slice ao pl pc)).run Trym.prog w = .ok (.string (strOf z pl)) w := by
  rcases h with ⟨rfl, rfl⟩ | ⟨b, off, rfl, hc⟩
  · rw [run_convert_bytes_nil w 23 5 Trym.underlying23 Trym.underlying5 0 pc 9 Trym.underlying9]
    rfl
  · exact run_convert_bytes_arg w 23 5 Trym.underlying23 Trym.underlying5 b off pl pc ((List.range pl).map z) (by simp) (fun j hj => by rw [hc j hj]; simp [hj]) 9 Trym.underlying9
theorem RAt.keep {w w' : World} {ao : Option Addr} {pl : Nat} {z : Nat → Int} (h : RAt w ao pl z) (hs : ∀ a v, w.cell? a = some v → w'.cell? a = some v ∨ ∀ b off, ao = some ⟨b, off, none⟩ → a.block ≠ b) : RAt w' ao pl z := by
  rcases h with h | ⟨b, off, rfl, hc⟩
  · exact Or.inl h
  · refine Or.inr ⟨b, off, rfl, fun j hj => ?_⟩
    rcases hs _ _ (hc j hj) with h | h
    · exact h
    · exact absurd rfl (h b off rfl)

/-- what sagaRefused leaves: the record turned back from i, its refusal in a block of its own -/
def Refused (w : World) (r q n i : Nat) (gid reason : ByteArray) (x : Int) (F : Nat → Nat → Value) (e : Ending) (w' : World) : Prop :=
  e = .returned (.slice (some ⟨q, i * 9, none⟩) (n - i) (n - i)) ∧ Rec w' r q n gid COMP (.pointer (some ⟨w.heap.size, 0, none⟩)) (turned F i REFUSED n) ∧
    w'.cell? ⟨w.heap.size, 0, none⟩ = some (.int .i64 x) ∧ w'.cell? ⟨w.heap.size, 1, none⟩ = some (.string reason) ∧ Only w w' r q

theorem only_alloc {a w : World} {r q : Nat} (h : Only a w r q) (o : Obj) : Only a (w.alloc o) r q :=
  h.trans (Only.of_below ((Below.refl _ _).alloc (Nat.le_refl _) o))

theorem refused11 (r q n i : Nat) (gid st0 : ByteArray) (rf : Value) (F : Nat → Nat → Value) (ao : Option Addr) (pl pc : Nat) (z : Nat → Int) (w : World) (hn : n ≤ 1048576) (hi : i < n) (hr : Rec w r q n gid st0 rf F) (x : Int) (hx : F i 0 = .int .i64 x)
    (hz : RAt w ao pl z) :
    Calls Trym.prog 11 #[.pointer (some ⟨r, 0, none⟩), .int .i64 i, .string ⟨#[97, 99, 116, 105, 111, 110]⟩, .slice ao pl pc] w fun e w' => Refused w r q n i gid (strOf z pl) x F e w' := by
  have HR := hideIt hr
  have hzd : RAt w.drew ao pl z := hz
  have hconv := conv_any pc hzd
  obtain ⟨reason, hre⟩ : ∃ s, Hid (strOf z pl = s) := ⟨_, (rfl : strOf z pl = strOf z pl)⟩
  rw [hre.out] at hconv ⊢
  have c20 := hr.b
  have ci := hr.row i 0 hi (by omega)
  rw [hx, Nat.add_zero] at ci
  have c16 := hr.f
  have f16 := hr.fr 16
  have hlr := block_lt c20
  have hlq := block_lt ci
  simp only at hlr hlq
  clear hr hx hz hzd
  have ii : (i : Int) < (n : Int) := by omega
  have HT : Hid (Rec (((w.setCell ⟨r, 16, none⟩ (.pointer (some ⟨w.heap.size, 0, none⟩))).alloc (.cells #[.int .i64 x, .string reason] 54)).drew) r q n gid st0 (.pointer (some ⟨w.heap.size, 0, none⟩)) F) :=
    ((HR.out.setRf _).keep (by omega) (((Below.refl _ _).alloc (Nat.le_refl _) _).drew))
  have HO : Hid (Only w (((w.setCell ⟨r, 16, none⟩ (.pointer (some ⟨w.heap.size, 0, none⟩))).alloc (.cells #[.int .i64 x, .string reason] 54)).drew) r q) :=
    (only_alloc ((Only.refl w r q).set (Or.inl rfl) _) _).trans (Only.of_below (Below.refl _ _).drew)
  have HP : Hid ((((w.setCell ⟨r, 16, none⟩ (.pointer (some ⟨w.heap.size, 0, none⟩))).alloc (.cells #[.int .i64 x, .string reason] 54)).drew).heap[w.heap.size]? = some (.cells #[.int .i64 x, .string reason] 54 (0, 0))) := by
    show ((w.setCell ⟨r, 16, none⟩ (.pointer (some ⟨w.heap.size, 0, none⟩))).heap.push (.cells #[.int .i64 x, .string reason] 54))[w.heap.size]? = _
    have e : (w.setCell ⟨r, 16, none⟩ (.pointer (some ⟨w.heap.size, 0, none⟩))).heap.size = w.heap.size := by simp [World.setCell]
    rw [Array.getElem?_push, if_pos e.symm]
  go_enter Trym.func11, Trym.ntmps11
  go_wp2
  go_region
  clear hconv c20 ci c16 f16
  obtain ⟨W, HW⟩ : ∃ W, Hid (((w.setCell ⟨r, 16, none⟩ (.pointer (some ⟨w.heap.size, 0, none⟩))).alloc (.cells #[.int .i64 x, .string reason] 54)).drew = W) := ⟨_, (rfl : _ = _)⟩
  rw [HW.out] at HT HO HP ⊢
  clear HW
  go_wp2_with (first | (go_at_call 14; refine (turn_any r q n i gid st0 REFUSED _ F W hn hi HT.out).mono ?_; rintro e w1 ⟨rfl, h1, h2⟩; have H1 := hideIt h1; have H2 := hideIt h2; clear h1 h2))
  go_ret
  have hpb : w.heap.size < W.heap.size := (Array.getElem?_eq_some_iff.1 HP.out).1
  have hk := H2.out.block w.heap.size hpb (by omega) (by omega)
  have hk2 : w1.heap[w.heap.size]? = some (.cells #[.int .i64 x, .string reason] 54 (0, 0)) := hk.trans HP.out
  exact ⟨rfl, H1.out, cell_in hk2 0, cell_in hk2 1, HO.out.trans H2.out⟩

theorem refused_any (r q n i : Nat) (gid st0 : ByteArray) (rf : Value) (F : Nat → Nat → Value) (ao : Option Addr) (pl pc : Nat) (z : Nat → Int) (w : World) (hn : n ≤ 1048576) (hi : i < n) (hr : Rec w r q n gid st0 rf F) (x : Int) (hx : F i 0 = .int .i64 x)
    (hz : RAt w ao pl z) :
    Calls Trym.prog 7 #[.pointer (some ⟨r, 0, none⟩), .int .i64 i, .string ⟨#[97, 99, 116, 105, 111, 110]⟩, .slice ao pl pc] w fun e w' => Refused w r q n i gid (strOf z pl) x F e w' := by
  have H := hideIt (refused11 r q n i gid st0 rf F ao pl pc z w hn hi hr x hx hz)
  clear hr hx hz
  go_enter Trym.func7, Trym.ntmps7
  go_wp2_with (first | (go_at_call 11; refine H.out.mono ?_; rintro e w1 ⟨rfl, h1⟩; have H1 := hideIt h1; clear h1))
  go_ret
  exact ⟨rfl, H1.out⟩
end Go.Proofs.Qxb6614651aMods.sag
