/-
  THE WALK of zzRefusedAt (8).
-/
import Derived.Test.Qxb6614651aModsRecs
import Derived.LaidEql
namespace Go.Proofs.Qxb6614651aMods.sag
open Go.ChangeShapes Go.WideShapes Go.ChangeAt Go.RowKit
set_option linter.unusedVariables false

/-- the branches that came in: n structs of six cells from ⟨b, off⟩ on, and their payloads -/
structure In (w : World) (b off n : Nat) (B : Bs) : Prop where
  c0 : ∀ k, k < n → w.cell? ⟨b, off + k * 6, none⟩ = some (.int .i64 (B.br k))
  c1 : ∀ k, k < n → w.cell? ⟨b, off + k * 6 + 1, none⟩ = some (.string (B.ac k))
  c2 : ∀ k, k < n → w.cell? ⟨b, off + k * 6 + 2, none⟩ = some (.slice (B.pa k) (B.pl k) (B.pc k))
  c3 : ∀ k, k < n → w.cell? ⟨b, off + k * 6 + 3, none⟩ = some (.string (B.st k))
  c4 : ∀ k, k < n → w.cell? ⟨b, off + k * 6 + 4, none⟩ = some (.int .i64 (B.at_ k))
  c5 : ∀ k, k < n → w.cell? ⟨b, off + k * 6 + 5, none⟩ = some (.string (B.le k))
  pay : ∀ k, k < n → BytesAt w (B.pa k) (B.pl k) (B.pz k)
theorem In.below {w w' : World} {b off n : Nat} {B : Bs} (h : In w b off n B) (hb : Below w.heap.size w w') : In w' b off n B :=
  ⟨fun k hk => by rw [hb.cell (block_lt (h.c0 k hk))]; exact h.c0 k hk, fun k hk => by rw [hb.cell (block_lt (h.c1 k hk))]; exact h.c1 k hk, fun k hk => by rw [hb.cell (block_lt (h.c2 k hk))]; exact h.c2 k hk,
   fun k hk => by rw [hb.cell (block_lt (h.c3 k hk))]; exact h.c3 k hk, fun k hk => by rw [hb.cell (block_lt (h.c4 k hk))]; exact h.c4 k hk, fun k hk => by rw [hb.cell (block_lt (h.c5 k hk))]; exact h.c5 k hk, fun k hk => (h.pay k hk).below hb⟩

theorem info51 : (Trym.prog.info? 51).isSome = true := by kernel_rfl
/-- '&a[i] != &a[i]': one address -/
theorem neq_same (a : Addr) (w : World) : (binOp .neq 55 (.pointer (some a)) (.pointer (some a))).run Trym.prog w = .ok (.bool false) w := by
  obtain ⟨j, hj⟩ := Option.isSome_iff_exists.1 info51
  have h : ∀ d : Nat, (Op.equalIn (d + 1) 55 (.pointer (some a)) (.pointer (some a))).run Trym.prog w = .ok true w := fun d => by
    simp [Op.equalIn, run_underlying Trym.underlying55, typeInfo, sizeOf, run_sameAddr_same, hj]
  simp only [binOp]
  simp [Op.equal, Op.maxDepth, h 9999]

/-- the statuses behind a refusal at i -/
def statAt (B : Bs) (i k : Nat) : ByteArray := if k = i then REFUSED else if i < k then SKIPPED else B.st k

set_option maxRecDepth 100000 in
set_option maxHeartbeats 1000000 in
theorem at_any (r q n i p b off bc : Nat) (gid : ByteArray) (B : Bs) (Y : Nat → Value) (ao : Option Addr) (pl pc : Nat) (z : Nat → Int) (w : World) (hn : n ≤ 1048576) (hi : i < n)
    (h1 : Rec w r q n gid COMP (.pointer (some ⟨p, 0, none⟩)) (fields B Y (statAt B i))) (hp : Pays w B n Y) (hin : In w b off n B) (hz : RAt w ao pl z)
    (a1 : w.cell? ⟨p, 0, none⟩ = some (.int .i64 (B.br i))) (a2 : w.cell? ⟨p, 1, none⟩ = some (.string (strOf z pl))) (hpl : ∀ k, k < n → B.pl k ≤ maxLen) :
    Calls Trym.prog 8 #[.pointer (some ⟨r, 0, none⟩), .slice (some ⟨q, i * 9, none⟩) (n - i) (n - i), .string gid, .slice (some ⟨b, off, none⟩) n bc, .int .i64 i, .slice ao pl pc] w fun e w' => e = .returned (.bool true) ∧ Below w.heap.size w w' := by
  have H1 := hideIt h1
  have HP := hideIt hp
  have HI := hideIt hin
  have HL := hideIt hpl
  have hconv : ∀ nq, (convert 23 9 (.slice ao pl pc)).run Trym.prog (w.drewN nq) = .ok (.string (strOf z pl)) (w.drewN nq) := fun nq => conv_any pc (show RAt (w.drewN nq) ao pl z from hz)
  have hconv0 := conv_any pc (show RAt w ao pl z from hz)
  obtain ⟨reason, hre⟩ : ∃ s, Hid (strOf z pl = s) := ⟨_, (rfl : strOf z pl = strOf z pl)⟩
  rw [hre.out] at hconv hconv0 a2
  obtain ⟨cst, hcst, hcs⟩ : ∃ s, Hid (COMP = s) ∧ (s.toList == [99, 111, 109, 112, 101, 110, 115, 97, 116, 105, 110, 103]) = true := ⟨COMP, (rfl : COMP = COMP), by decide +kernel⟩
  have g1 := h1.g
  have s1 := h1.s
  rw [hcst.out] at s1
  have f1 := h1.f
  have c1 := h1.b
  have ci := hin.c0 i hi
  have ii : (i : Int) < (n : Int) := by omega
  have i0 : (0 : Int) < ((n - i : Nat) : Int) := by omega
  have e0 : ((n - i : Nat) : Int) = (n : Int) - (i : Int) := by omega
  have hneq := fun w => neq_same ⟨q, i * 9, none⟩ w
  clear h1 hp hin hz hpl
  go_enter Trym.func8, Trym.ntmps8
  go_wp2
  go_quiet (fail)
  go_wp2
  go_quiet (fail)
  go_wp2
  clear g1 s1 f1 a1 a2 c1 ci hconv hconv0 hneq
  go_loopw [13] (fun t wr => ∃ k : Nat, k ≤ n ∧ t = .int .i64 k ∧ Below w.heap.size w wr) (fun t _ => n - (intOf t).toNat)
  case atStart => exact ⟨0, Nat.zero_le _, rfl, below_drewN (below_drewN (Below.refl _ _) _) _⟩
  case round =>
    obtain ⟨k, hk, rfl, hbel⟩ := hrel
    have HB := hideIt hbel
    by_cases hlt : k < n
    · have R1 := hideIt (H1.out.keep (by omega) hbel)
      have I1 := hideIt (HI.out.below hbel)
      have c1 := R1.out.b
      have i1 : (k : Int) < (n : Int) := by omega
      obtain ⟨y1, d1, e1, n1, t1⟩ := (HP.out.below hbel) k hlt
      have T1 := hideIt t1
      have NN := hideIt n1
      clear t1 n1 hbel
      obtain ⟨u0, u1, u2, u3, u4, u5, u6, u7, u8⟩ := R1.out.cells hlt
      rw [e1] at u5
      have v0 := I1.out.c0 k hlt
      have v1 := I1.out.c1 k hlt
      have v2 := I1.out.c2 k hlt
      have v3 := I1.out.c3 k hlt
      have v4 := I1.out.c4 k hlt
      have v5 := I1.out.c5 k hlt
      clear e1
      have HC := hideIt (fun sx wx (hx : Below wr.heap.size wr wx) => kept_any (B.br k) (B.at_ k) (B.ac k) sx (B.le k) (B.st k) y1 (B.pa k) (B.pl k) d1 (B.pc k) (B.pz k) wx (HL.out k hlt) NN.out (T1.out.below hx) ((I1.out.pay k hlt).below hx))
      have CASES : (k < i ∧ statAt B i k = B.st k) ∨ (k = i ∧ statAt B i k = ⟨#[114, 101, 102, 117, 115, 101, 100]⟩) ∨ (i < k ∧ statAt B i k = ⟨#[115, 107, 105, 112, 112, 101, 100]⟩) := by
        unfold statAt
        by_cases e : k = i
        · exact Or.inr (Or.inl ⟨e, by rw [if_pos e]; rfl⟩)
        · by_cases e2 : i < k
          · exact Or.inr (Or.inr ⟨e2, by rw [if_neg e, if_pos e2]; rfl⟩)
          · exact Or.inl ⟨by omega, by rw [if_neg e, if_neg e2]⟩
      rcases CASES with ⟨hki, es⟩ | ⟨hki, es⟩ | ⟨hki, es⟩
      · rw [es] at u6
        clear es
        have j1 : (k : Int) < (i : Int) := by omega
        have j2 : ((k : Int) == (i : Int)) = false := beq_eq_false_iff_ne.2 (by omega)
        go_wp2
        go_region_held3 (fun w' => w'.cell? ⟨r, 20, none⟩ = some (.slice (some ⟨q, 0, none⟩) n n) ∧ w'.cell? ⟨q, k * 9, none⟩ = some (.int .i64 (B.br k)) ∧ w'.cell? ⟨q, k * 9 + 1, none⟩ = some (.string (B.ac k)) ∧ w'.cell? ⟨q, k * 9 + 2, none⟩ = some (.pointer none) ∧ w'.cell? ⟨q, k * 9 + 3, none⟩ = some (.pointer none) ∧ w'.cell? ⟨q, k * 9 + 4, none⟩ = some (.pointer none) ∧ w'.cell? ⟨q, k * 9 + 5, none⟩ = some (.slice y1 (B.pl k) d1) ∧ w'.cell? ⟨q, k * 9 + 6, none⟩ = some (.string (B.st k)) ∧ w'.cell? ⟨q, k * 9 + 7, none⟩ = some (.int .i64 (B.at_ k)) ∧ w'.cell? ⟨q, k * 9 + 8, none⟩ = some (.string (B.le k)) ∧ w'.cell? ⟨b, off + k * 6, none⟩ = some (.int .i64 (B.br k)) ∧ w'.cell? ⟨b, off + k * 6 + 1, none⟩ = some (.string (B.ac k)) ∧ w'.cell? ⟨b, off + k * 6 + 2, none⟩ = some (.slice (B.pa k) (B.pl k) (B.pc k)) ∧ w'.cell? ⟨b, off + k * 6 + 3, none⟩ = some (.string (B.st k)) ∧ w'.cell? ⟨b, off + k * 6 + 4, none⟩ = some (.int .i64 (B.at_ k)) ∧ w'.cell? ⟨b, off + k * 6 + 5, none⟩ = some (.string (B.le k))) (first | exact S5.out | go_keep) (first | (go_at_call 12; refine (HC.out _ _ ?_).mono ?_; exact (Below.refl _ _).drew; rintro e w5 ⟨rfl, hb5⟩; have HB5 : Hid (Below wr.drew.heap.size wr.drew w5) := hb5; have S5 := hideIt (show (fun w' => w'.cell? ⟨r, 20, none⟩ = some (.slice (some ⟨q, 0, none⟩) n n) ∧ w'.cell? ⟨q, k * 9, none⟩ = some (.int .i64 (B.br k)) ∧ w'.cell? ⟨q, k * 9 + 1, none⟩ = some (.string (B.ac k)) ∧ w'.cell? ⟨q, k * 9 + 2, none⟩ = some (.pointer none) ∧ w'.cell? ⟨q, k * 9 + 3, none⟩ = some (.pointer none) ∧ w'.cell? ⟨q, k * 9 + 4, none⟩ = some (.pointer none) ∧ w'.cell? ⟨q, k * 9 + 5, none⟩ = some (.slice y1 (B.pl k) d1) ∧ w'.cell? ⟨q, k * 9 + 6, none⟩ = some (.string (B.st k)) ∧ w'.cell? ⟨q, k * 9 + 7, none⟩ = some (.int .i64 (B.at_ k)) ∧ w'.cell? ⟨q, k * 9 + 8, none⟩ = some (.string (B.le k)) ∧ w'.cell? ⟨b, off + k * 6, none⟩ = some (.int .i64 (B.br k)) ∧ w'.cell? ⟨b, off + k * 6 + 1, none⟩ = some (.string (B.ac k)) ∧ w'.cell? ⟨b, off + k * 6 + 2, none⟩ = some (.slice (B.pa k) (B.pl k) (B.pc k)) ∧ w'.cell? ⟨b, off + k * 6 + 3, none⟩ = some (.string (B.st k)) ∧ w'.cell? ⟨b, off + k * 6 + 4, none⟩ = some (.int .i64 (B.at_ k)) ∧ w'.cell? ⟨b, off + k * 6 + 5, none⟩ = some (.string (B.le k))) w5 from ⟨(hb5.cell (block_lt c1)).trans c1, (hb5.cell (block_lt u0)).trans u0, (hb5.cell (block_lt u1)).trans u1, (hb5.cell (block_lt u2)).trans u2, (hb5.cell (block_lt u3)).trans u3, (hb5.cell (block_lt u4)).trans u4, (hb5.cell (block_lt u5)).trans u5, (hb5.cell (block_lt u6)).trans u6, (hb5.cell (block_lt u7)).trans u7, (hb5.cell (block_lt u8)).trans u8, (hb5.cell (block_lt v0)).trans v0, (hb5.cell (block_lt v1)).trans v1, (hb5.cell (block_lt v2)).trans v2, (hb5.cell (block_lt v3)).trans v3, (hb5.cell (block_lt v4)).trans v4, (hb5.cell (block_lt v5)).trans v5⟩); clear hb5))
        obtain ⟨t0, t1, t2, t3, t4, t5, t6, t7, t8, t9, t10, t11, t12, t13, t14, t15⟩ := S5.out
        clear c1 u0 u1 u2 u3 u4 u5 u6 u7 u8 v0 v1 v2 v3 v4 v5
        go_wp2
        go_roundw
        case rel => exact ⟨k + 1, by omega, by go_num, HB.out.drew.trans (HB5.out.mono HB.out.size)⟩
        case measure => simp [intOf]; omega
      · rw [es] at u6
        clear es
        have j2 : ((k : Int) == (i : Int)) = true := beq_iff_eq.2 (by omega)
        clear hki
        go_wp2
        go_region_held3 (fun w' => w'.cell? ⟨r, 20, none⟩ = some (.slice (some ⟨q, 0, none⟩) n n) ∧ w'.cell? ⟨q, k * 9, none⟩ = some (.int .i64 (B.br k)) ∧ w'.cell? ⟨q, k * 9 + 1, none⟩ = some (.string (B.ac k)) ∧ w'.cell? ⟨q, k * 9 + 2, none⟩ = some (.pointer none) ∧ w'.cell? ⟨q, k * 9 + 3, none⟩ = some (.pointer none) ∧ w'.cell? ⟨q, k * 9 + 4, none⟩ = some (.pointer none) ∧ w'.cell? ⟨q, k * 9 + 5, none⟩ = some (.slice y1 (B.pl k) d1) ∧ w'.cell? ⟨q, k * 9 + 6, none⟩ = some (.string ⟨#[114, 101, 102, 117, 115, 101, 100]⟩) ∧ w'.cell? ⟨q, k * 9 + 7, none⟩ = some (.int .i64 (B.at_ k)) ∧ w'.cell? ⟨q, k * 9 + 8, none⟩ = some (.string (B.le k)) ∧ w'.cell? ⟨b, off + k * 6, none⟩ = some (.int .i64 (B.br k)) ∧ w'.cell? ⟨b, off + k * 6 + 1, none⟩ = some (.string (B.ac k)) ∧ w'.cell? ⟨b, off + k * 6 + 2, none⟩ = some (.slice (B.pa k) (B.pl k) (B.pc k)) ∧ w'.cell? ⟨b, off + k * 6 + 3, none⟩ = some (.string (B.st k)) ∧ w'.cell? ⟨b, off + k * 6 + 4, none⟩ = some (.int .i64 (B.at_ k)) ∧ w'.cell? ⟨b, off + k * 6 + 5, none⟩ = some (.string (B.le k))) (first | exact S5.out | go_keep) (first | (go_at_call 12; refine (HC.out _ _ ?_).mono ?_; exact (Below.refl _ _).drew; rintro e w5 ⟨rfl, hb5⟩; have HB5 : Hid (Below wr.drew.heap.size wr.drew w5) := hb5; have S5 := hideIt (show (fun w' => w'.cell? ⟨r, 20, none⟩ = some (.slice (some ⟨q, 0, none⟩) n n) ∧ w'.cell? ⟨q, k * 9, none⟩ = some (.int .i64 (B.br k)) ∧ w'.cell? ⟨q, k * 9 + 1, none⟩ = some (.string (B.ac k)) ∧ w'.cell? ⟨q, k * 9 + 2, none⟩ = some (.pointer none) ∧ w'.cell? ⟨q, k * 9 + 3, none⟩ = some (.pointer none) ∧ w'.cell? ⟨q, k * 9 + 4, none⟩ = some (.pointer none) ∧ w'.cell? ⟨q, k * 9 + 5, none⟩ = some (.slice y1 (B.pl k) d1) ∧ w'.cell? ⟨q, k * 9 + 6, none⟩ = some (.string ⟨#[114, 101, 102, 117, 115, 101, 100]⟩) ∧ w'.cell? ⟨q, k * 9 + 7, none⟩ = some (.int .i64 (B.at_ k)) ∧ w'.cell? ⟨q, k * 9 + 8, none⟩ = some (.string (B.le k)) ∧ w'.cell? ⟨b, off + k * 6, none⟩ = some (.int .i64 (B.br k)) ∧ w'.cell? ⟨b, off + k * 6 + 1, none⟩ = some (.string (B.ac k)) ∧ w'.cell? ⟨b, off + k * 6 + 2, none⟩ = some (.slice (B.pa k) (B.pl k) (B.pc k)) ∧ w'.cell? ⟨b, off + k * 6 + 3, none⟩ = some (.string (B.st k)) ∧ w'.cell? ⟨b, off + k * 6 + 4, none⟩ = some (.int .i64 (B.at_ k)) ∧ w'.cell? ⟨b, off + k * 6 + 5, none⟩ = some (.string (B.le k))) w5 from ⟨(hb5.cell (block_lt c1)).trans c1, (hb5.cell (block_lt u0)).trans u0, (hb5.cell (block_lt u1)).trans u1, (hb5.cell (block_lt u2)).trans u2, (hb5.cell (block_lt u3)).trans u3, (hb5.cell (block_lt u4)).trans u4, (hb5.cell (block_lt u5)).trans u5, (hb5.cell (block_lt u6)).trans u6, (hb5.cell (block_lt u7)).trans u7, (hb5.cell (block_lt u8)).trans u8, (hb5.cell (block_lt v0)).trans v0, (hb5.cell (block_lt v1)).trans v1, (hb5.cell (block_lt v2)).trans v2, (hb5.cell (block_lt v3)).trans v3, (hb5.cell (block_lt v4)).trans v4, (hb5.cell (block_lt v5)).trans v5⟩); clear hb5))
        obtain ⟨t0, t1, t2, t3, t4, t5, t6, t7, t8, t9, t10, t11, t12, t13, t14, t15⟩ := S5.out
        clear c1 u0 u1 u2 u3 u4 u5 u6 u7 u8 v0 v1 v2 v3 v4 v5
        go_wp2
        go_roundw
        case rel => exact ⟨k + 1, by omega, by go_num, HB.out.drew.trans (HB5.out.mono HB.out.size)⟩
        case measure => simp [intOf]; omega
      · rw [es] at u6
        clear es
        have j1 : (i : Int) < (k : Int) := by omega
        have j2 : ((k : Int) == (i : Int)) = false := beq_eq_false_iff_ne.2 (by omega)
        go_wp2
        go_region_held3 (fun w' => w'.cell? ⟨r, 20, none⟩ = some (.slice (some ⟨q, 0, none⟩) n n) ∧ w'.cell? ⟨q, k * 9, none⟩ = some (.int .i64 (B.br k)) ∧ w'.cell? ⟨q, k * 9 + 1, none⟩ = some (.string (B.ac k)) ∧ w'.cell? ⟨q, k * 9 + 2, none⟩ = some (.pointer none) ∧ w'.cell? ⟨q, k * 9 + 3, none⟩ = some (.pointer none) ∧ w'.cell? ⟨q, k * 9 + 4, none⟩ = some (.pointer none) ∧ w'.cell? ⟨q, k * 9 + 5, none⟩ = some (.slice y1 (B.pl k) d1) ∧ w'.cell? ⟨q, k * 9 + 6, none⟩ = some (.string ⟨#[115, 107, 105, 112, 112, 101, 100]⟩) ∧ w'.cell? ⟨q, k * 9 + 7, none⟩ = some (.int .i64 (B.at_ k)) ∧ w'.cell? ⟨q, k * 9 + 8, none⟩ = some (.string (B.le k)) ∧ w'.cell? ⟨b, off + k * 6, none⟩ = some (.int .i64 (B.br k)) ∧ w'.cell? ⟨b, off + k * 6 + 1, none⟩ = some (.string (B.ac k)) ∧ w'.cell? ⟨b, off + k * 6 + 2, none⟩ = some (.slice (B.pa k) (B.pl k) (B.pc k)) ∧ w'.cell? ⟨b, off + k * 6 + 3, none⟩ = some (.string (B.st k)) ∧ w'.cell? ⟨b, off + k * 6 + 4, none⟩ = some (.int .i64 (B.at_ k)) ∧ w'.cell? ⟨b, off + k * 6 + 5, none⟩ = some (.string (B.le k))) (first | exact S5.out | go_keep) (first | (go_at_call 12; refine (HC.out _ _ ?_).mono ?_; exact (Below.refl _ _).drew; rintro e w5 ⟨rfl, hb5⟩; have HB5 : Hid (Below wr.drew.heap.size wr.drew w5) := hb5; have S5 := hideIt (show (fun w' => w'.cell? ⟨r, 20, none⟩ = some (.slice (some ⟨q, 0, none⟩) n n) ∧ w'.cell? ⟨q, k * 9, none⟩ = some (.int .i64 (B.br k)) ∧ w'.cell? ⟨q, k * 9 + 1, none⟩ = some (.string (B.ac k)) ∧ w'.cell? ⟨q, k * 9 + 2, none⟩ = some (.pointer none) ∧ w'.cell? ⟨q, k * 9 + 3, none⟩ = some (.pointer none) ∧ w'.cell? ⟨q, k * 9 + 4, none⟩ = some (.pointer none) ∧ w'.cell? ⟨q, k * 9 + 5, none⟩ = some (.slice y1 (B.pl k) d1) ∧ w'.cell? ⟨q, k * 9 + 6, none⟩ = some (.string ⟨#[115, 107, 105, 112, 112, 101, 100]⟩) ∧ w'.cell? ⟨q, k * 9 + 7, none⟩ = some (.int .i64 (B.at_ k)) ∧ w'.cell? ⟨q, k * 9 + 8, none⟩ = some (.string (B.le k)) ∧ w'.cell? ⟨b, off + k * 6, none⟩ = some (.int .i64 (B.br k)) ∧ w'.cell? ⟨b, off + k * 6 + 1, none⟩ = some (.string (B.ac k)) ∧ w'.cell? ⟨b, off + k * 6 + 2, none⟩ = some (.slice (B.pa k) (B.pl k) (B.pc k)) ∧ w'.cell? ⟨b, off + k * 6 + 3, none⟩ = some (.string (B.st k)) ∧ w'.cell? ⟨b, off + k * 6 + 4, none⟩ = some (.int .i64 (B.at_ k)) ∧ w'.cell? ⟨b, off + k * 6 + 5, none⟩ = some (.string (B.le k))) w5 from ⟨(hb5.cell (block_lt c1)).trans c1, (hb5.cell (block_lt u0)).trans u0, (hb5.cell (block_lt u1)).trans u1, (hb5.cell (block_lt u2)).trans u2, (hb5.cell (block_lt u3)).trans u3, (hb5.cell (block_lt u4)).trans u4, (hb5.cell (block_lt u5)).trans u5, (hb5.cell (block_lt u6)).trans u6, (hb5.cell (block_lt u7)).trans u7, (hb5.cell (block_lt u8)).trans u8, (hb5.cell (block_lt v0)).trans v0, (hb5.cell (block_lt v1)).trans v1, (hb5.cell (block_lt v2)).trans v2, (hb5.cell (block_lt v3)).trans v3, (hb5.cell (block_lt v4)).trans v4, (hb5.cell (block_lt v5)).trans v5⟩); clear hb5))
        obtain ⟨t0, t1, t2, t3, t4, t5, t6, t7, t8, t9, t10, t11, t12, t13, t14, t15⟩ := S5.out
        clear c1 u0 u1 u2 u3 u4 u5 u6 u7 u8 v0 v1 v2 v3 v4 v5
        go_wp2
        go_roundw
        case rel => exact ⟨k + 1, by omega, by go_num, HB.out.drew.trans (HB5.out.mono HB.out.size)⟩
        case measure => simp [intOf]; omega
    · clear hbel
      go_wp2
      go_ret
      exact ⟨rfl, HB.out⟩
end Go.Proofs.Qxb6614651aMods.sag
