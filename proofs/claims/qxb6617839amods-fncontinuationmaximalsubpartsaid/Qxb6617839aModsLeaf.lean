/-
  THE WALKS of the six functions beneath the law: each computes the plain function of the text 'Plain'.
-/
import Derived.Test.Qxb6617839aModsRows
import Derived.Test.Qxb6617839aModsPlain
import Derived.WalkKit
import Derived.ProofKit
import Derived.WalkSpells
import Derived.WalkLawsBesides
namespace Go.Proofs.Qxb6617839aMods.cms
open Go.ChangeShapes Go.WideShapes Go.ChangeAt Go.RowKit
set_option linter.unusedVariables false

theorem lead_any (c : Int) (w : World) (h0 : 0 ≤ c) (h1 : c ≤ 255) :
    Calls Trym.prog 7 #[.int .u8 c] w fun e w' => e = .returned (.int .i64 (leadLen c)) ∧ w = w' := by
  go_enter Trym.func7, Trym.ntmps7
  go_wp2
  all_goals (go_ret)
  all_goals (refine ⟨?_, rfl⟩; simp_all [leadLen])

theorem meets_any (lo hi a z : Int) (w : World) :
    Calls Trym.prog 8 #[.int .i64 lo, .int .i64 hi, .int .i64 a, .int .i64 z] w fun e w' => e = .returned (.bool (meets lo hi a z)) ∧ w = w' := by
  go_enter Trym.func8, Trym.ntmps8
  go_wp2
  all_goals (go_ret)
  · refine ⟨?_, rfl⟩; simp [meets, *]
  · refine ⟨?_, rfl⟩; simp [meets]; omega

theorem bytes_any (a : Option Addr) (n cap : Nat) (w : World) (h : n ≤ maxLen) :
    Calls Trym.prog 4 #[.slice a n cap] w fun e w' => e = .returned (.bool (decide (n ≤ 1048576))) ∧ w = w' := by
  unfold maxLen at h
  go_enter Trym.func4, Trym.ntmps4
  go_wp2
  all_goals (go_ret)
  · refine ⟨?_, rfl⟩; simp; omega
  · refine ⟨?_, rfl⟩; simp; omega

theorem hideIt {p : Prop} (h : p) : Hid p := h
theorem ret_bool {a b : Bool} (h : a = b) : Ending.returned (.bool a) = .returned (.bool b) := by rw [h]

theorem cont_snoc {B : Nat → Int} {k : Nat} (hj : ∀ j, 1 ≤ j → j ≤ k → B j / 64 = 2) (h : (B (k + 1) / 64 != 2) = false) : ∀ j, 1 ≤ j → j ≤ k + 1 → B j / 64 = 2 := by
  intro j h1 h2
  by_cases e : j = k + 1
  · subst e; simpa using h
  · exact hj j h1 (by omega)
theorem miss_at {B : Nat → Int} {k K : Nat} (hk : k < K) (h : (B (k + 1) / 64 != 2) = true) : false = allOk B K :=
  (allOk_miss B K k hk (not_ok B k (by simpa using h))).symm

theorem pre_long (B : Nat → Int) (hB : ∀ k, 0 ≤ B k ∧ B k ≤ 255) (g n cap m : Nat) (w : World) (hn : n ≤ maxLen) (hm : m ≤ n) (hm2 : 2 ≤ m) (hm4 : m ≤ 4)
    (hc : ∀ k, k < n → w.cell? ⟨g, k, none⟩ = some (.int .u8 (B k))) (hl : leadLen (B 0) < (m : Int)) :
    Calls Trym.prog 5 #[.slice (some ⟨g, 0, none⟩) n cap, .int .i64 m] w fun e w' => e = .returned (.bool (allOk B (m - 1))) ∧ w = w' := by
  unfold maxLen at hn
  have hB0 := hB 0
  have hc0 := hc 0 (by omega)
  have ha := allOk_long B hB0.1 hB0.2 m hm2 hl
  rw [ha]
  clear ha
  go_enter Trym.func5, Trym.ntmps5
  go_wp2_with (first | (go_at_call 7; refine (lead_any _ _ (by omega) (by omega)).mono ?_; rintro e w' ⟨rfl, rfl⟩))
  all_goals (go_ret; exact ⟨rfl, rfl⟩)

theorem pre22 (B : Nat → Int) (hB : ∀ k, 0 ≤ B k ∧ B k ≤ 255) (g n cap : Nat) (w : World) (hn : n ≤ maxLen) (hm : 2 ≤ n)
    (hc : ∀ k, k < n → w.cell? ⟨g, k, none⟩ = some (.int .u8 (B k))) (hl : leadLen (B 0) = 2) :
    Calls Trym.prog 5 #[.slice (some ⟨g, 0, none⟩) n cap, .int .i64 2] w fun e w' => e = .returned (.bool (allOk B 1)) ∧ w = w' := by
  unfold maxLen at hn
  have hB0 := hB 0
  have hc0 := hc 0 (by omega)
  have HL : Hid (leadLen (B 0) = 2) := hl
  clear hl
  go_enter Trym.func5, Trym.ntmps5
  go_wp2_with (first | (go_at_call 7; refine (lead_any _ _ (by omega) (by omega)).mono ?_; rintro e w' ⟨rfl, rfl⟩; rw [HL.out]))
  go_loop [6, 7] (fun v i => ∃ k : Nat, k + 1 ≤ 2 ∧ i = .int .i64 (k + 1 : Nat) ∧ v = .int .i64 (V B 32 k) ∧ ∀ j, 1 ≤ j → j ≤ k → B j / 64 = 2) (fun _ i => 2 - (intOf i).toNat)
  case atStart => exact ⟨0, by omega, rfl, rfl, fun j h1 h2 => by omega⟩
  case round =>
    obtain ⟨k, hk, rfl, rfl, hj⟩ := hrel
    have hBk := hB (k + 1)
    have hv := V_bd B hB 32 (by omega) (by omega) k (by omega)
    by_cases hlt : k + 1 < 2
    · have hck := hc (k + 1) (by omega)
      have hs := V_step B hB 32 (by omega) (by omega) k (by omega)
      have HJ : Hid (∀ j, 1 ≤ j → j ≤ k → B j / 64 = 2) := hj
      clear hj
      go_wp2
      · go_ret
        have hx : (B (k + 1) / 64 != 2) = true := by assumption
        exact ⟨ret_bool (miss_at (by omega) hx), rfl⟩
      · have hx : (B (k + 1) / 64 != 2) = false := by assumption
        go_round
        case rel => exact ⟨k + 1, by omega, by go_num, rfl, cont_snoc HJ.out hx⟩
        case measure => simp [intOf]; omega
    · obtain rfl : k = 1 := by omega
      have HJ : Hid (∀ j, 1 ≤ j → j ≤ 1 → B j / 64 = 2) := hj
      clear hj
      have hor := i64_or0 (V B 32 1) hv.1 hv.2
      have HF := hideIt (fin22 B hB HL.out (HJ.out 1 (by omega) (by omega)))
      go_wp2_with (first | (go_at_call 8; refine (meets_any _ _ _ _ _).mono ?_; rintro e w' ⟨rfl, rfl⟩))
      go_ret
      exact ⟨ret_bool HF.out, rfl⟩

theorem pre32 (B : Nat → Int) (hB : ∀ k, 0 ≤ B k ∧ B k ≤ 255) (g n cap : Nat) (w : World) (hn : n ≤ maxLen) (hm : 2 ≤ n)
    (hc : ∀ k, k < n → w.cell? ⟨g, k, none⟩ = some (.int .u8 (B k))) (hl : leadLen (B 0) = 3) :
    Calls Trym.prog 5 #[.slice (some ⟨g, 0, none⟩) n cap, .int .i64 2] w fun e w' => e = .returned (.bool (allOk B 1)) ∧ w = w' := by
  unfold maxLen at hn
  have hB0 := hB 0
  have hc0 := hc 0 (by omega)
  have HL : Hid (leadLen (B 0) = 3) := hl
  clear hl
  go_enter Trym.func5, Trym.ntmps5
  go_wp2_with (first | (go_at_call 7; refine (lead_any _ _ (by omega) (by omega)).mono ?_; rintro e w' ⟨rfl, rfl⟩; rw [HL.out]))
  go_loop [6, 7] (fun v i => ∃ k : Nat, k + 1 ≤ 2 ∧ i = .int .i64 (k + 1 : Nat) ∧ v = .int .i64 (V B 16 k) ∧ ∀ j, 1 ≤ j → j ≤ k → B j / 64 = 2) (fun _ i => 2 - (intOf i).toNat)
  case atStart => exact ⟨0, by omega, rfl, rfl, fun j h1 h2 => by omega⟩
  case round =>
    obtain ⟨k, hk, rfl, rfl, hj⟩ := hrel
    have hBk := hB (k + 1)
    have hv := V_bd B hB 16 (by omega) (by omega) k (by omega)
    by_cases hlt : k + 1 < 2
    · have hck := hc (k + 1) (by omega)
      have hs := V_step B hB 16 (by omega) (by omega) k (by omega)
      have HJ : Hid (∀ j, 1 ≤ j → j ≤ k → B j / 64 = 2) := hj
      clear hj
      go_wp2
      · go_ret
        have hx : (B (k + 1) / 64 != 2) = true := by assumption
        exact ⟨ret_bool (miss_at (by omega) hx), rfl⟩
      · have hx : (B (k + 1) / 64 != 2) = false := by assumption
        go_round
        case rel => exact ⟨k + 1, by omega, by go_num, rfl, cont_snoc HJ.out hx⟩
        case measure => simp [intOf]; omega
    · obtain rfl : k = 1 := by omega
      have HJ : Hid (∀ j, 1 ≤ j → j ≤ 1 → B j / 64 = 2) := hj
      clear hj
      have hor := i64_or6 (V B 16 1) 63 hv.1 hv.2 (by omega) (by omega)
      have HF := hideIt (fin32 B hB HL.out (HJ.out 1 (by omega) (by omega)))
      go_wp2_with (first | (go_at_call 8; refine (meets_any _ _ _ _ _).mono ?_; rintro e w' ⟨rfl, rfl⟩))
      all_goals (go_ret; refine ⟨ret_bool (Eq.trans ?_ HF.out), rfl⟩; simp_all)

theorem pre33 (B : Nat → Int) (hB : ∀ k, 0 ≤ B k ∧ B k ≤ 255) (g n cap : Nat) (w : World) (hn : n ≤ maxLen) (hm : 3 ≤ n)
    (hc : ∀ k, k < n → w.cell? ⟨g, k, none⟩ = some (.int .u8 (B k))) (hl : leadLen (B 0) = 3) :
    Calls Trym.prog 5 #[.slice (some ⟨g, 0, none⟩) n cap, .int .i64 3] w fun e w' => e = .returned (.bool (allOk B 2)) ∧ w = w' := by
  unfold maxLen at hn
  have hB0 := hB 0
  have hc0 := hc 0 (by omega)
  have HL : Hid (leadLen (B 0) = 3) := hl
  clear hl
  go_enter Trym.func5, Trym.ntmps5
  go_wp2_with (first | (go_at_call 7; refine (lead_any _ _ (by omega) (by omega)).mono ?_; rintro e w' ⟨rfl, rfl⟩; rw [HL.out]))
  go_loop [6, 7] (fun v i => ∃ k : Nat, k + 1 ≤ 3 ∧ i = .int .i64 (k + 1 : Nat) ∧ v = .int .i64 (V B 16 k) ∧ ∀ j, 1 ≤ j → j ≤ k → B j / 64 = 2) (fun _ i => 3 - (intOf i).toNat)
  case atStart => exact ⟨0, by omega, rfl, rfl, fun j h1 h2 => by omega⟩
  case round =>
    obtain ⟨k, hk, rfl, rfl, hj⟩ := hrel
    have hBk := hB (k + 1)
    have hv := V_bd B hB 16 (by omega) (by omega) k (by omega)
    by_cases hlt : k + 1 < 3
    · have hck := hc (k + 1) (by omega)
      have hs := V_step B hB 16 (by omega) (by omega) k (by omega)
      have HJ : Hid (∀ j, 1 ≤ j → j ≤ k → B j / 64 = 2) := hj
      clear hj
      go_wp2
      · go_ret
        have hx : (B (k + 1) / 64 != 2) = true := by assumption
        exact ⟨ret_bool (miss_at (by omega) hx), rfl⟩
      · have hx : (B (k + 1) / 64 != 2) = false := by assumption
        go_round
        case rel => exact ⟨k + 1, by omega, by go_num, rfl, cont_snoc HJ.out hx⟩
        case measure => simp [intOf]; omega
    · obtain rfl : k = 2 := by omega
      have HJ : Hid (∀ j, 1 ≤ j → j ≤ 2 → B j / 64 = 2) := hj
      clear hj
      have hor := i64_or0 (V B 16 2) hv.1 hv.2
      have HF := hideIt (fin33 B hB HL.out (HJ.out 1 (by omega) (by omega)) (HJ.out 2 (by omega) (by omega)))
      go_wp2_with (first | (go_at_call 8; refine (meets_any _ _ _ _ _).mono ?_; rintro e w' ⟨rfl, rfl⟩))
      all_goals (go_ret; refine ⟨ret_bool (Eq.trans ?_ HF.out), rfl⟩; simp_all)

theorem pre42 (B : Nat → Int) (hB : ∀ k, 0 ≤ B k ∧ B k ≤ 255) (g n cap : Nat) (w : World) (hn : n ≤ maxLen) (hm : 2 ≤ n)
    (hc : ∀ k, k < n → w.cell? ⟨g, k, none⟩ = some (.int .u8 (B k))) (hl : leadLen (B 0) = 4) :
    Calls Trym.prog 5 #[.slice (some ⟨g, 0, none⟩) n cap, .int .i64 2] w fun e w' => e = .returned (.bool (allOk B 1)) ∧ w = w' := by
  unfold maxLen at hn
  have hB0 := hB 0
  have hc0 := hc 0 (by omega)
  have HL : Hid (leadLen (B 0) = 4) := hl
  clear hl
  go_enter Trym.func5, Trym.ntmps5
  go_wp2_with (first | (go_at_call 7; refine (lead_any _ _ (by omega) (by omega)).mono ?_; rintro e w' ⟨rfl, rfl⟩; rw [HL.out]))
  go_loop [6, 7] (fun v i => ∃ k : Nat, k + 1 ≤ 2 ∧ i = .int .i64 (k + 1 : Nat) ∧ v = .int .i64 (V B 8 k) ∧ ∀ j, 1 ≤ j → j ≤ k → B j / 64 = 2) (fun _ i => 2 - (intOf i).toNat)
  case atStart => exact ⟨0, by omega, rfl, rfl, fun j h1 h2 => by omega⟩
  case round =>
    obtain ⟨k, hk, rfl, rfl, hj⟩ := hrel
    have hBk := hB (k + 1)
    have hv := V_bd B hB 8 (by omega) (by omega) k (by omega)
    by_cases hlt : k + 1 < 2
    · have hck := hc (k + 1) (by omega)
      have hs := V_step B hB 8 (by omega) (by omega) k (by omega)
      have HJ : Hid (∀ j, 1 ≤ j → j ≤ k → B j / 64 = 2) := hj
      clear hj
      go_wp2
      · go_ret
        have hx : (B (k + 1) / 64 != 2) = true := by assumption
        exact ⟨ret_bool (miss_at (by omega) hx), rfl⟩
      · have hx : (B (k + 1) / 64 != 2) = false := by assumption
        go_round
        case rel => exact ⟨k + 1, by omega, by go_num, rfl, cont_snoc HJ.out hx⟩
        case measure => simp [intOf]; omega
    · obtain rfl : k = 1 := by omega
      have HJ : Hid (∀ j, 1 ≤ j → j ≤ 1 → B j / 64 = 2) := hj
      clear hj
      have hor := i64_or12 (V B 8 1) 4095 hv.1 hv.2 (by omega) (by omega)
      have HF := hideIt (fin42 B hB HL.out (HJ.out 1 (by omega) (by omega)))
      go_wp2_with (first | (go_at_call 8; refine (meets_any _ _ _ _ _).mono ?_; rintro e w' ⟨rfl, rfl⟩))
      go_ret
      exact ⟨ret_bool HF.out, rfl⟩

theorem pre43 (B : Nat → Int) (hB : ∀ k, 0 ≤ B k ∧ B k ≤ 255) (g n cap : Nat) (w : World) (hn : n ≤ maxLen) (hm : 3 ≤ n)
    (hc : ∀ k, k < n → w.cell? ⟨g, k, none⟩ = some (.int .u8 (B k))) (hl : leadLen (B 0) = 4) :
    Calls Trym.prog 5 #[.slice (some ⟨g, 0, none⟩) n cap, .int .i64 3] w fun e w' => e = .returned (.bool (allOk B 2)) ∧ w = w' := by
  unfold maxLen at hn
  have hB0 := hB 0
  have hc0 := hc 0 (by omega)
  have HL : Hid (leadLen (B 0) = 4) := hl
  clear hl
  go_enter Trym.func5, Trym.ntmps5
  go_wp2_with (first | (go_at_call 7; refine (lead_any _ _ (by omega) (by omega)).mono ?_; rintro e w' ⟨rfl, rfl⟩; rw [HL.out]))
  go_loop [6, 7] (fun v i => ∃ k : Nat, k + 1 ≤ 3 ∧ i = .int .i64 (k + 1 : Nat) ∧ v = .int .i64 (V B 8 k) ∧ ∀ j, 1 ≤ j → j ≤ k → B j / 64 = 2) (fun _ i => 3 - (intOf i).toNat)
  case atStart => exact ⟨0, by omega, rfl, rfl, fun j h1 h2 => by omega⟩
  case round =>
    obtain ⟨k, hk, rfl, rfl, hj⟩ := hrel
    have hBk := hB (k + 1)
    have hv := V_bd B hB 8 (by omega) (by omega) k (by omega)
    by_cases hlt : k + 1 < 3
    · have hck := hc (k + 1) (by omega)
      have hs := V_step B hB 8 (by omega) (by omega) k (by omega)
      have HJ : Hid (∀ j, 1 ≤ j → j ≤ k → B j / 64 = 2) := hj
      clear hj
      go_wp2
      · go_ret
        have hx : (B (k + 1) / 64 != 2) = true := by assumption
        exact ⟨ret_bool (miss_at (by omega) hx), rfl⟩
      · have hx : (B (k + 1) / 64 != 2) = false := by assumption
        go_round
        case rel => exact ⟨k + 1, by omega, by go_num, rfl, cont_snoc HJ.out hx⟩
        case measure => simp [intOf]; omega
    · obtain rfl : k = 2 := by omega
      have HJ : Hid (∀ j, 1 ≤ j → j ≤ 2 → B j / 64 = 2) := hj
      clear hj
      have hor := i64_or6 (V B 8 2) 63 hv.1 hv.2 (by omega) (by omega)
      have HF := hideIt (fin43 B hB HL.out (HJ.out 1 (by omega) (by omega)) (HJ.out 2 (by omega) (by omega)))
      go_wp2_with (first | (go_at_call 8; refine (meets_any _ _ _ _ _).mono ?_; rintro e w' ⟨rfl, rfl⟩))
      go_ret
      exact ⟨ret_bool HF.out, rfl⟩

theorem pre44 (B : Nat → Int) (hB : ∀ k, 0 ≤ B k ∧ B k ≤ 255) (g n cap : Nat) (w : World) (hn : n ≤ maxLen) (hm : 4 ≤ n)
    (hc : ∀ k, k < n → w.cell? ⟨g, k, none⟩ = some (.int .u8 (B k))) (hl : leadLen (B 0) = 4) :
    Calls Trym.prog 5 #[.slice (some ⟨g, 0, none⟩) n cap, .int .i64 4] w fun e w' => e = .returned (.bool (allOk B 3)) ∧ w = w' := by
  unfold maxLen at hn
  have hB0 := hB 0
  have hc0 := hc 0 (by omega)
  have HL : Hid (leadLen (B 0) = 4) := hl
  clear hl
  go_enter Trym.func5, Trym.ntmps5
  go_wp2_with (first | (go_at_call 7; refine (lead_any _ _ (by omega) (by omega)).mono ?_; rintro e w' ⟨rfl, rfl⟩; rw [HL.out]))
  go_loop [6, 7] (fun v i => ∃ k : Nat, k + 1 ≤ 4 ∧ i = .int .i64 (k + 1 : Nat) ∧ v = .int .i64 (V B 8 k) ∧ ∀ j, 1 ≤ j → j ≤ k → B j / 64 = 2) (fun _ i => 4 - (intOf i).toNat)
  case atStart => exact ⟨0, by omega, rfl, rfl, fun j h1 h2 => by omega⟩
  case round =>
    obtain ⟨k, hk, rfl, rfl, hj⟩ := hrel
    have hBk := hB (k + 1)
    have hv := V_bd B hB 8 (by omega) (by omega) k (by omega)
    by_cases hlt : k + 1 < 4
    · have hck := hc (k + 1) (by omega)
      have hs := V_step B hB 8 (by omega) (by omega) k (by omega)
      have HJ : Hid (∀ j, 1 ≤ j → j ≤ k → B j / 64 = 2) := hj
      clear hj
      go_wp2
      · go_ret
        have hx : (B (k + 1) / 64 != 2) = true := by assumption
        exact ⟨ret_bool (miss_at (by omega) hx), rfl⟩
      · have hx : (B (k + 1) / 64 != 2) = false := by assumption
        go_round
        case rel => exact ⟨k + 1, by omega, by go_num, rfl, cont_snoc HJ.out hx⟩
        case measure => simp [intOf]; omega
    · obtain rfl : k = 3 := by omega
      have HJ : Hid (∀ j, 1 ≤ j → j ≤ 3 → B j / 64 = 2) := hj
      clear hj
      have hor := i64_or0 (V B 8 3) hv.1 hv.2
      have HF := hideIt (fin44 B hB HL.out (HJ.out 1 (by omega) (by omega)) (HJ.out 2 (by omega) (by omega)) (HJ.out 3 (by omega) (by omega)))
      go_wp2_with (first | (go_at_call 8; refine (meets_any _ _ _ _ _).mono ?_; rintro e w' ⟨rfl, rfl⟩))
      go_ret
      exact ⟨ret_bool HF.out, rfl⟩

theorem pre_any (B : Nat → Int) (hB : ∀ k, 0 ≤ B k ∧ B k ≤ 255) (g n cap m : Nat) (w : World) (hn : n ≤ maxLen) (hm : m ≤ n) (hm2 : 2 ≤ m) (hm4 : m ≤ 4)
    (hc : ∀ k, k < n → w.cell? ⟨g, k, none⟩ = some (.int .u8 (B k))) :
    Calls Trym.prog 5 #[.slice (some ⟨g, 0, none⟩) n cap, .int .i64 m] w fun e w' => e = .returned (.bool (allOk B (m - 1))) ∧ w = w' := by
  by_cases hl : leadLen (B 0) < (m : Int)
  · exact pre_long B hB g n cap m w hn hm hm2 hm4 hc hl
  · have hll : leadLen (B 0) = 2 ∨ leadLen (B 0) = 3 ∨ leadLen (B 0) = 4 ∨ leadLen (B 0) = 0 := by
      unfold leadLen
      repeat' split
      all_goals omega
    obtain rfl | rfl | rfl : m = 2 ∨ m = 3 ∨ m = 4 := by omega
    · rcases hll with h | h | h | h
      · exact pre22 B hB g n cap w hn hm hc h
      · exact pre32 B hB g n cap w hn hm hc h
      · exact pre42 B hB g n cap w hn hm hc h
      · omega
    · rcases hll with h | h | h | h
      · omega
      · exact pre33 B hB g n cap w hn hm hc h
      · exact pre43 B hB g n cap w hn hm hc h
      · omega
    · rcases hll with h | h | h | h
      · omega
      · omega
      · exact pre44 B hB g n cap w hn hm hc h
      · omega
end Go.Proofs.Qxb6617839aMods.cms
