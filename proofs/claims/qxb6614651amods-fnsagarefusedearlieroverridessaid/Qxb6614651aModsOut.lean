/-
  THE WALK of the law where i or j lies outside; all kinds of input together.
-/
import Derived.Test.Qxb6614651aModsLaw
namespace Go.Proofs.Qxb6614651aMods.sag
open Go.ChangeShapes Go.WideShapes Go.ChangeAt Go.RowKit
set_option linter.unusedVariables false

set_option maxRecDepth 100000 in
set_option maxHeartbeats 2000000 in
theorem law_out (gid st : ByteArray) (ba : Option Addr) (n bc : Nat) (i j : Int) (B : Bs) (r1 r2 : Option Addr) (l1 k1 l2 k2 : Nat) (w : World) (hg : gid.size ≤ maxLen) (hs : st.size ≤ maxLen) (hl1 : l1 ≤ maxLen) (hl2 : l2 ≤ maxLen) (hc : Came w ba n B)
    (ho : j < 0 ∨ i < j ∨ (n : Int) ≤ i) :
    Calls Trym.prog 3 #[.string gid, .string st, .slice ba n bc, .int .i64 i, .int .i64 j, .slice r1 l1 k1, .slice r2 l2 k2] w fun e w' => e = .returned (.bool true) ∧ Below w.heap.size w w' := by
  have H4 := hideIt (bytes_any gid st ba n bc B i j r1 r2 l1 k1 l2 k2 w hg hs hl1 hl2 hc)
  have HC := hideIt hc
  have hn0 := hc.len
  unfold maxLen at hg hs hn0 hl1 hl2
  clear hc
  by_cases h1 : j < 0
  · go_enter Trym.func3, Trym.ntmps3
    go_wp2_with (first | (go_at_call 4; refine H4.out.mono ?_; rintro e w4 ⟨r4, rfl, hr4, n4, hw4⟩; have HB4 : Hid (Below w.heap.size w w4) := (by rw [hw4]; exact below_drewN (Below.refl _ _) _); clear hw4; have HR4 := hideIt hr4; clear hr4) | (go_at_call 5; have HF := hideIt (HR4.out (by simpa using ‹(!r4) = false›)); refine (ok_any _ n bc B _ w4 (by omega) (by omega) (HC.out.below HB4.out) HF.out.2.1).mono ?_; rintro e w5 ⟨r5, rfl, _, n5, hw5⟩; have HB5 : Hid (Below w.heap.size w w5) := (by rw [hw5]; exact below_drewN HB4.out _); clear hw5))
    all_goals (go_ret; first | exact ⟨rfl, HB5.out⟩ | exact ⟨rfl, HB4.out⟩)
  · by_cases h2 : i < j
    · go_enter Trym.func3, Trym.ntmps3
      go_wp2_with (first | (go_at_call 4; refine H4.out.mono ?_; rintro e w4 ⟨r4, rfl, hr4, n4, hw4⟩; have HB4 : Hid (Below w.heap.size w w4) := (by rw [hw4]; exact below_drewN (Below.refl _ _) _); clear hw4; have HR4 := hideIt hr4; clear hr4) | (go_at_call 5; have HF := hideIt (HR4.out (by simpa using ‹(!r4) = false›)); refine (ok_any _ n bc B _ w4 (by omega) (by omega) (HC.out.below HB4.out) HF.out.2.1).mono ?_; rintro e w5 ⟨r5, rfl, _, n5, hw5⟩; have HB5 : Hid (Below w.heap.size w w5) := (by rw [hw5]; exact below_drewN HB4.out _); clear hw5))
      all_goals (go_ret; first | exact ⟨rfl, HB5.out⟩ | exact ⟨rfl, HB4.out⟩)
    · have h3 : (n : Int) ≤ i := by omega
      go_enter Trym.func3, Trym.ntmps3
      go_wp2_with (first | (go_at_call 4; refine H4.out.mono ?_; rintro e w4 ⟨r4, rfl, hr4, n4, hw4⟩; have HB4 : Hid (Below w.heap.size w w4) := (by rw [hw4]; exact below_drewN (Below.refl _ _) _); clear hw4; have HR4 := hideIt hr4; clear hr4) | (go_at_call 5; have HF := hideIt (HR4.out (by simpa using ‹(!r4) = false›)); refine (ok_any _ n bc B _ w4 (by omega) (by omega) (HC.out.below HB4.out) HF.out.2.1).mono ?_; rintro e w5 ⟨r5, rfl, _, n5, hw5⟩; have HB5 : Hid (Below w.heap.size w w5) := (by rw [hw5]; exact below_drewN HB4.out _); clear hw5))
      all_goals (go_ret; first | exact ⟨rfl, HB5.out⟩ | exact ⟨rfl, HB4.out⟩)

theorem law_any (gid st : ByteArray) (ba : Option Addr) (n bc : Nat) (i j : Int) (B : Bs) (r1 r2 : Option Addr) (l1 k1 l2 k2 : Nat) (z1 z2 : Nat → Int) (w : World) (hg : gid.size ≤ maxLen) (hs : st.size ≤ maxLen)
    (hc : Came w ba n B ∧ ∀ k, k < n → B.pa k = none → B.pl k = 0 ∧ B.pc k = 0)
    (h1 : l1 ≤ maxLen ∧ (r1 = none → l1 = 0 ∧ k1 = 0) ∧ BytesAt w r1 l1 z1) (h2 : l2 ≤ maxLen ∧ (r2 = none → l2 = 0 ∧ k2 = 0) ∧ BytesAt w r2 l2 z2) :
    Calls Trym.prog 3 #[.string gid, .string st, .slice ba n bc, .int .i64 i, .int .i64 j, .slice r1 l1 k1, .slice r2 l2 k2] w fun e w' => e = .returned (.bool true) ∧ Below w.heap.size w w' := by
  obtain ⟨hc, hnil⟩ := hc
  obtain ⟨hl1, hn1, hz1⟩ := h1
  obtain ⟨hl2, hn2, hz2⟩ := h2
  by_cases ho : j < 0 ∨ i < j ∨ (n : Int) ≤ i
  · exact law_out gid st ba n bc i j B r1 r2 l1 k1 l2 k2 w hg hs hl1 hl2 hc ho
  · obtain ⟨i', rfl⟩ := Int.eq_ofNat_of_zero_le (show 0 ≤ i by omega)
    obtain ⟨j', rfl⟩ := Int.eq_ofNat_of_zero_le (show 0 ≤ j by omega)
    obtain ⟨b, off, rfl, hin⟩ := hc.at_ (by omega)
    have hji : j' ≤ i' := by omega
    have hi : i' < n := by omega
    cases r1 with
    | none =>
      obtain ⟨rfl, rfl⟩ := hn1 rfl
      cases r2 with
      | none =>
        obtain ⟨rfl, rfl⟩ := hn2 rfl
        exact law_none_none gid st b off n bc i' j' B w hg hs hc hin hnil hji hi
      | some x2 => exact law_none_some gid st b off n bc i' j' B x2 l2 k2 z2 w hg hs hc hin hnil hji hi hl2 hz2
    | some x1 =>
      cases r2 with
      | none =>
        obtain ⟨rfl, rfl⟩ := hn2 rfl
        exact law_some_none gid st b off n bc i' j' B x1 l1 k1 z1 w hg hs hc hin hnil hji hi hl1 hz1
      | some x2 => exact law_some_some gid st b off n bc i' j' B x1 l1 k1 z1 x2 l2 k2 z2 w hg hs hc hin hnil hji hi hl1 hz1 hl2 hz2
end Go.Proofs.Qxb6614651aMods.sag
