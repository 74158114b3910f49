/-
  THE WALK of zzSameRecord (9).
-/
import Derived.Test.Qxb6614651aModsSame
import Derived.Deep.RegionHeld3
namespace Go.Proofs.Qxb6614651aMods.sag
open Go.ChangeShapes Go.WideShapes Go.ChangeAt Go.RowKit
set_option linter.unusedVariables false

/-- the fields of the branches that came in, and their payloads -/
structure Bs where
  br : Nat → Int
  ac : Nat → ByteArray
  st : Nat → ByteArray
  at_ : Nat → Int
  le : Nat → ByteArray
  pa : Nat → Option Addr
  pl : Nat → Nat
  pc : Nat → Nat
  pz : Nat → Nat → Int

/-- the nine cells of branch k: its payload is the value 'Y k', its status 'S k' -/
def fields (B : Bs) (Y : Nat → Value) (S : Nat → ByteArray) (k j : Nat) : Value :=
  if j = 0 then .int .i64 (B.br k) else if j = 1 then .string (B.ac k) else if j = 5 then Y k else if j = 6 then .string (S k) else if j = 7 then .int .i64 (B.at_ k) else if j = 8 then .string (B.le k) else .pointer none

/-- every payload is a slice with the bytes of the branch -/
def Pays (w : World) (B : Bs) (n : Nat) (Y : Nat → Value) : Prop := ∀ k, k < n → PayIs w (Y k) (B.pa k).isNone (B.pl k) (B.pz k)
theorem Pays.below {w w' : World} {B : Bs} {n : Nat} {Y : Nat → Value} (h : Pays w B n Y) (hb : Below w.heap.size w w') : Pays w' B n Y := fun k hk => (h k hk).below hb

/-- the cells of branch k in the walk's words -/
theorem Rec.cells {w : World} {r q n : Nat} {gid st : ByteArray} {rf : Value} {B : Bs} {Y : Nat → Value} {S : Nat → ByteArray} (h : Rec w r q n gid st rf (fields B Y S)) {k : Nat} (hk : k < n) :
    w.cell? ⟨q, k * 9, none⟩ = some (.int .i64 (B.br k)) ∧ w.cell? ⟨q, k * 9 + 1, none⟩ = some (.string (B.ac k)) ∧ w.cell? ⟨q, k * 9 + 2, none⟩ = some (.pointer none) ∧ w.cell? ⟨q, k * 9 + 3, none⟩ = some (.pointer none) ∧
    w.cell? ⟨q, k * 9 + 4, none⟩ = some (.pointer none) ∧ w.cell? ⟨q, k * 9 + 5, none⟩ = some (Y k) ∧ w.cell? ⟨q, k * 9 + 6, none⟩ = some (.string (S k)) ∧ w.cell? ⟨q, k * 9 + 7, none⟩ = some (.int .i64 (B.at_ k)) ∧
    w.cell? ⟨q, k * 9 + 8, none⟩ = some (.string (B.le k)) :=
  ⟨h.row k 0 hk (by omega), h.row k 1 hk (by omega), h.row k 2 hk (by omega), h.row k 3 hk (by omega), h.row k 4 hk (by omega), h.row k 5 hk (by omega), h.row k 6 hk (by omega), h.row k 7 hk (by omega), h.row k 8 hk (by omega)⟩

set_option maxHeartbeats 1000000 in
theorem samerec_any (r1 q1 r2 q2 n p1 p2 : Nat) (gid st : ByteArray) (B : Bs) (Y1 Y2 : Nat → Value) (S : Nat → ByteArray) (x : Int) (reason : ByteArray) (w : World) (hn : n ≤ 1048576) (hn0 : 0 < n)
    (h1 : Rec w r1 q1 n gid st (.pointer (some ⟨p1, 0, none⟩)) (fields B Y1 S)) (h2 : Rec w r2 q2 n gid st (.pointer (some ⟨p2, 0, none⟩)) (fields B Y2 S)) (hp1 : Pays w B n Y1) (hp2 : Pays w B n Y2)
    (a1 : w.cell? ⟨p1, 0, none⟩ = some (.int .i64 x)) (a2 : w.cell? ⟨p1, 1, none⟩ = some (.string reason)) (b1 : w.cell? ⟨p2, 0, none⟩ = some (.int .i64 x)) (b2 : w.cell? ⟨p2, 1, none⟩ = some (.string reason)) (hpl : ∀ k, k < n → B.pl k ≤ maxLen) :
    Calls Trym.prog 9 #[.pointer (some ⟨r1, 0, none⟩), .pointer (some ⟨r2, 0, none⟩)] w fun e w' => e = .returned (.bool true) ∧ Below w.heap.size w w' := by
  have H1 := hideIt h1
  have H2 := hideIt h2
  have HP1 := hideIt hp1
  have HP2 := hideIt hp2
  have HL := hideIt hpl
  have g1 := h1.g
  have g2 := h2.g
  have s1 := h1.s
  have s2 := h2.s
  have f1 := h1.f
  have f2 := h2.f
  have c1 := h1.b
  have c2 := h2.b
  clear h1 h2 hp1 hp2 hpl
  go_enter Trym.func9, Trym.ntmps9
  go_wp2
  go_quiet (fail)
  go_wp2
  go_quiet (fail)
  go_wp2
  go_quiet (fail)
  go_wp2
  clear g1 g2 s1 s2 f1 f2 a1 a2 b1 b2 c1 c2
  go_loopw [5] (fun i wr => ∃ k : Nat, k ≤ n ∧ i = .int .i64 k ∧ Below w.heap.size w wr) (fun i _ => n - (intOf i).toNat)
  case atStart => exact ⟨0, Nat.zero_le _, rfl, below_drewN (below_drewN (below_drewN (Below.refl _ _) _) _) _⟩
  case round =>
    obtain ⟨k, hk, rfl, hbel⟩ := hrel
    have HB := hideIt hbel
    have R1 := hideIt (H1.out.keep hn0 hbel)
    have R2 := hideIt (H2.out.keep hn0 hbel)
    have c1 := R1.out.b
    have c2 := R2.out.b
    by_cases hlt : k < n
    · have i1 : (k : Int) < (n : Int) := by omega
      obtain ⟨y1, d1, e1, n1, t1⟩ := (HP1.out.below hbel) k hlt
      obtain ⟨y2, d2, e2, n2, t2⟩ := (HP2.out.below hbel) k hlt
      have T1 := hideIt t1
      have T2 := hideIt t2
      have NN : Hid (y1.isNone = y2.isNone) := n1.trans n2.symm
      clear t1 t2 n1 n2 hbel
      obtain ⟨u0, u1, u2, u3, u4, u5, u6, u7, u8⟩ := R1.out.cells hlt
      obtain ⟨v0, v1, v2, v3, v4, v5, v6, v7, v8⟩ := R2.out.cells hlt
      rw [e1] at u5
      rw [e2] at v5
      clear e1 e2
      have HC := hideIt (fun wx (hx : Below wr.heap.size wr wx) => sameb_any (B.br k) (B.at_ k) (B.ac k) (S k) (B.le k) y1 y2 (B.pl k) d1 d2 (B.pz k) wx (HL.out k hlt) NN.out (T1.out.below hx) (T2.out.below hx))
      go_wp2
      go_region_with (first | (go_at_call 13; refine (HC.out _ ?_).mono ?_; exact (Below.refl _ _).drew; rintro e w5 ⟨rfl, hb5⟩))
      all_goals
        have HB5 : Hid (Below wr.drew.heap.size wr.drew w5) := hb5
        clear hb5
        go_wp2
        go_roundw
        case rel => exact ⟨k + 1, by omega, by go_num, HB.out.drew.trans (HB5.out.mono HB.out.size)⟩
        case measure => simp [intOf]; omega
    · clear hbel
      go_wp2
      go_ret
      exact ⟨rfl, HB.out⟩
end Go.Proofs.Qxb6614651aMods.sag
