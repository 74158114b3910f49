/-
  THE WALKS of the two bounds: zzBytes (4), zzBranchBytesOK (5).
-/
import Derived.Test.Qxb6614651aModsAt
namespace Go.Proofs.Qxb6614651aMods.sag
open Go.ChangeShapes Go.WideShapes Go.ChangeAt Go.RowKit
set_option linter.unusedVariables false

/-- it answers a bool; if it says yes, F holds; the world is as it was but for draws -/
def Says (F : Prop) (w : World) (e : Ending) (w' : World) : Prop := ∃ r : Bool, e = .returned (.bool r) ∧ (r = true → F) ∧ ∃ n, w' = w.drewN n
theorem says_no {F : Prop} {w : World} (n : Nat) : Says F w (.returned (.bool false)) (w.drewN n) := ⟨false, rfl, (fun h => by cases h), n, rfl⟩
theorem says_yes {F : Prop} {w : World} (n : Nat) (h : F) : Says F w (.returned (.bool true)) (w.drewN n) := ⟨true, rfl, fun _ => h, n, rfl⟩

/-- the branches as they came in, at whatever address -/
structure Came (w : World) (ba : Option Addr) (n : Nat) (B : Bs) : Prop where
  at_ : 0 < n → ∃ b off, ba = some ⟨b, off, none⟩ ∧ In w b off n B
  len : n ≤ maxLen
  ac : ∀ k, k < n → (B.ac k).size ≤ maxLen
  pl : ∀ k, k < n → B.pl k ≤ maxLen
  st : ∀ k, k < n → (B.st k).size ≤ maxLen
  le : ∀ k, k < n → (B.le k).size ≤ maxLen

def Small (B : Bs) (k : Nat) : Prop := B.pl k ≤ 1048576 ∧ (B.ac k).size ≤ 1048576 ∧ (B.st k).size ≤ 1048576 ∧ (B.le k).size ≤ 1048576
def Fits (n : Nat) (B : Bs) (l1 l2 : Nat) : Prop := n ≤ 1048576 ∧ (∀ k, k < n → Small B k) ∧ l1 ≤ 1048576 ∧ l2 ≤ 1048576

set_option maxRecDepth 100000 in
set_option maxHeartbeats 1000000 in
theorem bytes_any (gid st : ByteArray) (ba : Option Addr) (n bc : Nat) (B : Bs) (i j : Int) (r1 r2 : Option Addr) (l1 k1 l2 k2 : Nat) (w : World) (hg : gid.size ≤ maxLen) (hs : st.size ≤ maxLen) (h1 : l1 ≤ maxLen) (h2 : l2 ≤ maxLen) (hc : Came w ba n B) :
    Calls Trym.prog 4 #[.string gid, .string st, .slice ba n bc, .int .i64 i, .int .i64 j, .slice r1 l1 k1, .slice r2 l2 k2] w fun e w' => Says (Fits n B l1 l2) w e w' := by
  have HC := hideIt hc
  have hn := hc.len
  unfold maxLen at hg hs h1 h2 hn
  clear hc
  go_enter Trym.func4, Trym.ntmps4
  go_wp2
  all_goals (try (go_ret; exact says_no 0))
  go_loop [15, 16] (fun z t => ∃ k : Nat, ∃ x : Int, k ≤ n ∧ t = .int .i64 k ∧ z = .int .i64 x ∧ 0 ≤ x ∧ x ≤ 1048576 ∧ ∀ m, m < k → Small B m) (fun _ t => n - (intOf t).toNat)
  case atStart => exact ⟨0, _, Nat.zero_le _, rfl, rfl, by omega, by omega, fun m hm => by omega⟩
  case round =>
    obtain ⟨k, x, hk, rfl, rfl, hx0, hx1, hm⟩ := hrel
    have HM := hideIt hm
    clear hm
    by_cases hlt : k < n
    · obtain ⟨b, off, rfl, hin⟩ := HC.out.at_ (by omega)
      have v1 := hin.c1 k hlt
      have v2 := hin.c2 k hlt
      have v3 := hin.c3 k hlt
      have v5 := hin.c5 k hlt
      have s1 := HC.out.ac k hlt
      have s2 := HC.out.pl k hlt
      have s3 := HC.out.st k hlt
      have s5 := HC.out.le k hlt
      unfold maxLen at s1 s2 s3 s5
      have i1 : (k : Int) < (n : Int) := by omega
      clear hin
      go_wp2
      all_goals (try (go_ret; exact says_no 0))
      go_round
      case rel => exact ⟨k + 1, _, by omega, by go_num, rfl, by omega, by omega, fun m hm => by
        by_cases e : m = k
        · subst e; exact ⟨by omega, by omega, by omega, by omega⟩
        · exact HM.out m (by omega)⟩
      case measure => simp [intOf]; omega
    · obtain rfl : k = n := by omega
      go_wp2
      all_goals (try (go_ret; exact says_no 0))
      go_ret
      exact says_yes 0 ⟨by omega, HM.out, by omega, by omega⟩

set_option maxRecDepth 100000 in
set_option maxHeartbeats 1000000 in
theorem ok_any (ba : Option Addr) (n bc : Nat) (B : Bs) (s : Int) (w : World) (hs0 : 0 ≤ s) (hs : s ≤ 4294967296) (hc : Came w ba n B) (hpl : ∀ k, k < n → Small B k) :
    Calls Trym.prog 5 #[.slice ba n bc, .int .i64 s] w fun e w' => Says True w e w' := by
  have HC := hideIt hc
  have HL := hideIt hpl
  have hn := hc.len
  unfold maxLen at hn
  clear hc hpl
  go_enter Trym.func5, Trym.ntmps5
  go_wp2
  · go_ret; exact says_no 0
  go_loopw [5, 6] (fun z t wr => ∃ k q : Nat, ∃ x : Int, k ≤ n ∧ t = .int .i64 k ∧ z = .int .i64 x ∧ 0 ≤ x ∧ x ≤ 1048576 ∧ wr = w.drewN q) (fun _ t _ => n - (intOf t).toNat)
  case atStart => exact ⟨0, 0, _, Nat.zero_le _, rfl, rfl, by omega, by omega, rfl⟩
  case round =>
    obtain ⟨k, q, x, hk, rfl, rfl, hx0, hx1, rfl⟩ := hrel
    by_cases hlt : k < n
    · obtain ⟨b, off, rfl, hin⟩ := HC.out.at_ (by omega)
      have v1 := hin.c1 k hlt
      have v2 := hin.c2 k hlt
      have v3 := hin.c3 k hlt
      have v5 := hin.c5 k hlt
      obtain ⟨s2, s1, s3, s5⟩ := HL.out k hlt
      have i1 : (k : Int) < (n : Int) := by omega
      clear hin
      go_wp2
      go_quiet (fail)
      go_wp2
      · go_ret
        exact says_no (q + nq)
      · go_roundw
        case rel => exact ⟨k + 1, q + nq, _, by omega, by go_num, rfl, by omega, by omega, rfl⟩
        case measure => simp [intOf]; omega
    · go_wp2
      go_ret
      exact says_yes q trivial
end Go.Proofs.Qxb6614651aMods.sag
