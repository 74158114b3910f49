/-
  THE WALK of 'continuation' (function 9) and of the function that hands on to it (function 6): the first place where the run of fitting bytes ends.
-/
import Derived.Test.Qxb6617839aModsLeaf
namespace Go.Proofs.Qxb6617839aMods.cms
open Go.ChangeShapes Go.WideShapes Go.ChangeAt Go.RowKit
set_option linter.unusedVariables false

def EndsAt (B : Nat → Int) (n k : Nat) : Prop := (∀ j, j < k → okB B j = true ∧ j + 1 < n) ∧ ¬ (okB B k = true ∧ k + 1 < n)

theorem ends_need {B : Nat → Int} {n k : Nat} (N : Int) (hN : need (B 0) = N) (hj : ∀ j, j < k → okB B j = true ∧ j + 1 < n) (h : ¬ (k : Int) < N) : EndsAt B n k :=
  ⟨hj, fun hx => by have := (of_decide_eq_true hx.1).1; omega⟩
theorem ends_len {B : Nat → Int} {n k : Nat} (hj : ∀ j, j < k → okB B j = true ∧ j + 1 < n) (h : ¬ k + 1 < n) : EndsAt B n k := ⟨hj, fun hx => h hx.2⟩
theorem ends_lo {B : Nat → Int} {n k : Nat} (L : Int) (hL : loAt (B 0) k = L) (hj : ∀ j, j < k → okB B j = true ∧ j + 1 < n) (h : ¬ L ≤ B (k + 1)) : EndsAt B n k :=
  ⟨hj, fun hx => by have := (of_decide_eq_true hx.1).2.1; omega⟩
theorem ends_hi {B : Nat → Int} {n k : Nat} (H : Int) (hH : hiAt (B 0) k = H) (hj : ∀ j, j < k → okB B j = true ∧ j + 1 < n) (h : ¬ B (k + 1) ≤ H) : EndsAt B n k :=
  ⟨hj, fun hx => by have := (of_decide_eq_true hx.1).2.2; omega⟩
theorem goes_on {B : Nat → Int} {n k : Nat} (N L H : Int) (hN : need (B 0) = N) (hL : loAt (B 0) k = L) (hH : hiAt (B 0) k = H) (hj : ∀ j, j < k → okB B j = true ∧ j + 1 < n)
    (h1 : (k : Int) < N) (h2 : k + 1 < n) (h3 : L ≤ B (k + 1)) (h4 : B (k + 1) ≤ H) : ∀ j, j < k + 1 → okB B j = true ∧ j + 1 < n := by
  intro j hjk
  by_cases e : j = k
  · subst e
    exact ⟨decide_eq_true ⟨by omega, by omega, by omega⟩, h2⟩
  · exact hj j (by omega)
theorem bd_at (c : Int) (k : Nat) : 0 ≤ loAt c k ∧ loAt c k ≤ 255 ∧ 0 ≤ hiAt c k ∧ hiAt c k ≤ 255 := by
  simp only [loAt, hiAt, lo, hi]
  repeat' split
  all_goals omega

theorem cont_a (B : Nat → Int) (hB : ∀ k, 0 ≤ B k ∧ B k ≤ 255) (g n cap : Nat) (w : World) (hn : n ≤ maxLen) (hn1 : 1 ≤ n)
    (hc : ∀ k, k < n → w.cell? ⟨g, k, none⟩ = some (.int .u8 (B k))) (hx : 194 ≤ B 0 ∧ B 0 ≤ 223) :
    Calls Trym.prog 9 #[.slice (some ⟨g, 0, none⟩) n cap] w fun e w' => ∃ k : Nat, e = .returned (.int .i64 k) ∧ EndsAt B n k ∧ w = w' := by
  unfold maxLen at hn
  have hN : Hid (need (B 0) = 1) := by show need (B 0) = 1; unfold need; repeat' split <;> omega
  have hL0 : Hid (loAt (B 0) 0 = 128) := by show loAt (B 0) 0 = 128; unfold loAt lo; repeat' split <;> omega
  have hH0 : Hid (hiAt (B 0) 0 = 191) := by show hiAt (B 0) 0 = 191; unfold hiAt hi; repeat' split <;> omega
  have hB0 := hB 0
  have hc0 := hc 0 (by omega)
  obtain ⟨c, HC⟩ : ∃ c, Hid (B 0 = c) := ⟨_, (rfl : B 0 = B 0)⟩
  rw [HC.out] at hx hB0 hc0
  go_enter Trym.func9, Trym.ntmps9
  go_wp2
  go_loop [4, 5, 7] (fun l h i => ∃ k : Nat, k ≤ 3 ∧ i = .int .i64 k ∧ l = .int .u8 (loAt (B 0) k) ∧ h = .int .u8 (hiAt (B 0) k) ∧ ∀ j, j < k → okB B j = true ∧ j + 1 < n) (fun _ _ i => 3 - (intOf i).toNat)
  case atStart => exact ⟨0, by omega, rfl, by rw [hL0.out], by rw [hH0.out], fun j hj => by omega⟩
  case round =>
    obtain ⟨k, hk3, rfl, rfl, rfl, hj⟩ := hrel
    have hbd := bd_at (B 0) k
    obtain ⟨L, HL⟩ : ∃ L, Hid (loAt (B 0) k = L) := ⟨_, (rfl : loAt (B 0) k = loAt (B 0) k)⟩
    obtain ⟨H, HH⟩ : ∃ H, Hid (hiAt (B 0) k = H) := ⟨_, (rfl : hiAt (B 0) k = hiAt (B 0) k)⟩
    rw [HL.out, HH.out] at hbd ⊢
    have HJ := hideIt hj
    clear hj
    have hBk := hB (k + 1)
    by_cases h1 : (k : Int) < 1
    · by_cases h2 : k + 1 < n
      · have hck := hc (k + 1) h2
        by_cases h3 : L ≤ B (k + 1)
        · by_cases h4 : B (k + 1) ≤ H
          · go_wp2
            go_round
            case rel => exact ⟨k + 1, by omega, by go_num, rfl, rfl, goes_on 1 L H hN.out HL.out HH.out HJ.out h1 h2 h3 h4⟩
            case measure => simp [intOf]; omega
          · go_wp2
            go_ret
            exact ⟨k, rfl, ends_hi H HH.out HJ.out (by omega), rfl⟩
        · go_wp2
          go_ret
          exact ⟨k, rfl, ends_lo L HL.out HJ.out (by omega), rfl⟩
      · have h2' : ¬ ((k : Int) + 1 < (n : Int)) := by omega
        go_wp2
        go_ret
        exact ⟨k, rfl, ends_len HJ.out (by omega), rfl⟩
    · go_wp2
      go_ret
      exact ⟨k, rfl, ends_need 1 hN.out HJ.out (by omega), rfl⟩

theorem cont_b (B : Nat → Int) (hB : ∀ k, 0 ≤ B k ∧ B k ≤ 255) (g n cap : Nat) (w : World) (hn : n ≤ maxLen) (hn1 : 1 ≤ n)
    (hc : ∀ k, k < n → w.cell? ⟨g, k, none⟩ = some (.int .u8 (B k))) (hx : B 0 = 224) :
    Calls Trym.prog 9 #[.slice (some ⟨g, 0, none⟩) n cap] w fun e w' => ∃ k : Nat, e = .returned (.int .i64 k) ∧ EndsAt B n k ∧ w = w' := by
  unfold maxLen at hn
  have hN : Hid (need (B 0) = 2) := by show need (B 0) = 2; unfold need; repeat' split <;> omega
  have hL0 : Hid (loAt (B 0) 0 = 160) := by show loAt (B 0) 0 = 160; unfold loAt lo; repeat' split <;> omega
  have hH0 : Hid (hiAt (B 0) 0 = 191) := by show hiAt (B 0) 0 = 191; unfold hiAt hi; repeat' split <;> omega
  have hB0 := hB 0
  have hc0 := hc 0 (by omega)
  obtain ⟨c, HC⟩ : ∃ c, Hid (B 0 = c) := ⟨_, (rfl : B 0 = B 0)⟩
  rw [HC.out] at hx hB0 hc0
  go_enter Trym.func9, Trym.ntmps9
  go_wp2
  go_loop [4, 5, 7] (fun l h i => ∃ k : Nat, k ≤ 3 ∧ i = .int .i64 k ∧ l = .int .u8 (loAt (B 0) k) ∧ h = .int .u8 (hiAt (B 0) k) ∧ ∀ j, j < k → okB B j = true ∧ j + 1 < n) (fun _ _ i => 3 - (intOf i).toNat)
  case atStart => exact ⟨0, by omega, rfl, by rw [hL0.out], by rw [hH0.out], fun j hj => by omega⟩
  case round =>
    obtain ⟨k, hk3, rfl, rfl, rfl, hj⟩ := hrel
    have hbd := bd_at (B 0) k
    obtain ⟨L, HL⟩ : ∃ L, Hid (loAt (B 0) k = L) := ⟨_, (rfl : loAt (B 0) k = loAt (B 0) k)⟩
    obtain ⟨H, HH⟩ : ∃ H, Hid (hiAt (B 0) k = H) := ⟨_, (rfl : hiAt (B 0) k = hiAt (B 0) k)⟩
    rw [HL.out, HH.out] at hbd ⊢
    have HJ := hideIt hj
    clear hj
    have hBk := hB (k + 1)
    by_cases h1 : (k : Int) < 2
    · by_cases h2 : k + 1 < n
      · have hck := hc (k + 1) h2
        by_cases h3 : L ≤ B (k + 1)
        · by_cases h4 : B (k + 1) ≤ H
          · go_wp2
            go_round
            case rel => exact ⟨k + 1, by omega, by go_num, rfl, rfl, goes_on 2 L H hN.out HL.out HH.out HJ.out h1 h2 h3 h4⟩
            case measure => simp [intOf]; omega
          · go_wp2
            go_ret
            exact ⟨k, rfl, ends_hi H HH.out HJ.out (by omega), rfl⟩
        · go_wp2
          go_ret
          exact ⟨k, rfl, ends_lo L HL.out HJ.out (by omega), rfl⟩
      · have h2' : ¬ ((k : Int) + 1 < (n : Int)) := by omega
        go_wp2
        go_ret
        exact ⟨k, rfl, ends_len HJ.out (by omega), rfl⟩
    · go_wp2
      go_ret
      exact ⟨k, rfl, ends_need 2 hN.out HJ.out (by omega), rfl⟩

theorem cont_c (B : Nat → Int) (hB : ∀ k, 0 ≤ B k ∧ B k ≤ 255) (g n cap : Nat) (w : World) (hn : n ≤ maxLen) (hn1 : 1 ≤ n)
    (hc : ∀ k, k < n → w.cell? ⟨g, k, none⟩ = some (.int .u8 (B k))) (hx : B 0 = 237) :
    Calls Trym.prog 9 #[.slice (some ⟨g, 0, none⟩) n cap] w fun e w' => ∃ k : Nat, e = .returned (.int .i64 k) ∧ EndsAt B n k ∧ w = w' := by
  unfold maxLen at hn
  have hN : Hid (need (B 0) = 2) := by show need (B 0) = 2; unfold need; repeat' split <;> omega
  have hL0 : Hid (loAt (B 0) 0 = 128) := by show loAt (B 0) 0 = 128; unfold loAt lo; repeat' split <;> omega
  have hH0 : Hid (hiAt (B 0) 0 = 159) := by show hiAt (B 0) 0 = 159; unfold hiAt hi; repeat' split <;> omega
  have hB0 := hB 0
  have hc0 := hc 0 (by omega)
  obtain ⟨c, HC⟩ : ∃ c, Hid (B 0 = c) := ⟨_, (rfl : B 0 = B 0)⟩
  rw [HC.out] at hx hB0 hc0
  go_enter Trym.func9, Trym.ntmps9
  go_wp2
  go_loop [4, 5, 7] (fun l h i => ∃ k : Nat, k ≤ 3 ∧ i = .int .i64 k ∧ l = .int .u8 (loAt (B 0) k) ∧ h = .int .u8 (hiAt (B 0) k) ∧ ∀ j, j < k → okB B j = true ∧ j + 1 < n) (fun _ _ i => 3 - (intOf i).toNat)
  case atStart => exact ⟨0, by omega, rfl, by rw [hL0.out], by rw [hH0.out], fun j hj => by omega⟩
  case round =>
    obtain ⟨k, hk3, rfl, rfl, rfl, hj⟩ := hrel
    have hbd := bd_at (B 0) k
    obtain ⟨L, HL⟩ : ∃ L, Hid (loAt (B 0) k = L) := ⟨_, (rfl : loAt (B 0) k = loAt (B 0) k)⟩
    obtain ⟨H, HH⟩ : ∃ H, Hid (hiAt (B 0) k = H) := ⟨_, (rfl : hiAt (B 0) k = hiAt (B 0) k)⟩
    rw [HL.out, HH.out] at hbd ⊢
    have HJ := hideIt hj
    clear hj
    have hBk := hB (k + 1)
    by_cases h1 : (k : Int) < 2
    · by_cases h2 : k + 1 < n
      · have hck := hc (k + 1) h2
        by_cases h3 : L ≤ B (k + 1)
        · by_cases h4 : B (k + 1) ≤ H
          · go_wp2
            go_round
            case rel => exact ⟨k + 1, by omega, by go_num, rfl, rfl, goes_on 2 L H hN.out HL.out HH.out HJ.out h1 h2 h3 h4⟩
            case measure => simp [intOf]; omega
          · go_wp2
            go_ret
            exact ⟨k, rfl, ends_hi H HH.out HJ.out (by omega), rfl⟩
        · go_wp2
          go_ret
          exact ⟨k, rfl, ends_lo L HL.out HJ.out (by omega), rfl⟩
      · have h2' : ¬ ((k : Int) + 1 < (n : Int)) := by omega
        go_wp2
        go_ret
        exact ⟨k, rfl, ends_len HJ.out (by omega), rfl⟩
    · go_wp2
      go_ret
      exact ⟨k, rfl, ends_need 2 hN.out HJ.out (by omega), rfl⟩

theorem cont_d1 (B : Nat → Int) (hB : ∀ k, 0 ≤ B k ∧ B k ≤ 255) (g n cap : Nat) (w : World) (hn : n ≤ maxLen) (hn1 : 1 ≤ n)
    (hc : ∀ k, k < n → w.cell? ⟨g, k, none⟩ = some (.int .u8 (B k))) (hx : 225 ≤ B 0 ∧ B 0 ≤ 236) :
    Calls Trym.prog 9 #[.slice (some ⟨g, 0, none⟩) n cap] w fun e w' => ∃ k : Nat, e = .returned (.int .i64 k) ∧ EndsAt B n k ∧ w = w' := by
  unfold maxLen at hn
  have hN : Hid (need (B 0) = 2) := by show need (B 0) = 2; unfold need; repeat' split <;> omega
  have hL0 : Hid (loAt (B 0) 0 = 128) := by show loAt (B 0) 0 = 128; unfold loAt lo; repeat' split <;> omega
  have hH0 : Hid (hiAt (B 0) 0 = 191) := by show hiAt (B 0) 0 = 191; unfold hiAt hi; repeat' split <;> omega
  have hB0 := hB 0
  have hc0 := hc 0 (by omega)
  obtain ⟨c, HC⟩ : ∃ c, Hid (B 0 = c) := ⟨_, (rfl : B 0 = B 0)⟩
  rw [HC.out] at hx hB0 hc0
  have t1 : (c == 224) = false := beq_eq_false_iff_ne.2 (by omega)
  have t2 : (c == 237) = false := beq_eq_false_iff_ne.2 (by omega)
  have t3 : (c == 240) = false := beq_eq_false_iff_ne.2 (by omega)
  have t4 : (c == 244) = false := beq_eq_false_iff_ne.2 (by omega)
  go_enter Trym.func9, Trym.ntmps9
  go_wp2
  go_loop [4, 5, 7] (fun l h i => ∃ k : Nat, k ≤ 3 ∧ i = .int .i64 k ∧ l = .int .u8 (loAt (B 0) k) ∧ h = .int .u8 (hiAt (B 0) k) ∧ ∀ j, j < k → okB B j = true ∧ j + 1 < n) (fun _ _ i => 3 - (intOf i).toNat)
  case atStart => exact ⟨0, by omega, rfl, by rw [hL0.out], by rw [hH0.out], fun j hj => by omega⟩
  case round =>
    obtain ⟨k, hk3, rfl, rfl, rfl, hj⟩ := hrel
    have hbd := bd_at (B 0) k
    obtain ⟨L, HL⟩ : ∃ L, Hid (loAt (B 0) k = L) := ⟨_, (rfl : loAt (B 0) k = loAt (B 0) k)⟩
    obtain ⟨H, HH⟩ : ∃ H, Hid (hiAt (B 0) k = H) := ⟨_, (rfl : hiAt (B 0) k = hiAt (B 0) k)⟩
    rw [HL.out, HH.out] at hbd ⊢
    have HJ := hideIt hj
    clear hj
    have hBk := hB (k + 1)
    by_cases h1 : (k : Int) < 2
    · by_cases h2 : k + 1 < n
      · have hck := hc (k + 1) h2
        by_cases h3 : L ≤ B (k + 1)
        · by_cases h4 : B (k + 1) ≤ H
          · go_wp2
            go_round
            case rel => exact ⟨.int .u8 128, .int .u8 191, .int .i64 ((k : Int) + 1), ⟨k + 1, by omega, by go_num, rfl, rfl, goes_on 2 L H hN.out HL.out HH.out HJ.out h1 h2 h3 h4⟩, rfl, rfl, rfl⟩
            case measure => simp [intOf]; omega
          · go_wp2
            go_ret
            exact ⟨k, rfl, ends_hi H HH.out HJ.out (by omega), rfl⟩
        · go_wp2
          go_ret
          exact ⟨k, rfl, ends_lo L HL.out HJ.out (by omega), rfl⟩
      · have h2' : ¬ ((k : Int) + 1 < (n : Int)) := by omega
        go_wp2
        go_ret
        exact ⟨k, rfl, ends_len HJ.out (by omega), rfl⟩
    · go_wp2
      go_ret
      exact ⟨k, rfl, ends_need 2 hN.out HJ.out (by omega), rfl⟩

theorem cont_d2 (B : Nat → Int) (hB : ∀ k, 0 ≤ B k ∧ B k ≤ 255) (g n cap : Nat) (w : World) (hn : n ≤ maxLen) (hn1 : 1 ≤ n)
    (hc : ∀ k, k < n → w.cell? ⟨g, k, none⟩ = some (.int .u8 (B k))) (hx : 238 ≤ B 0 ∧ B 0 ≤ 239) :
    Calls Trym.prog 9 #[.slice (some ⟨g, 0, none⟩) n cap] w fun e w' => ∃ k : Nat, e = .returned (.int .i64 k) ∧ EndsAt B n k ∧ w = w' := by
  unfold maxLen at hn
  have hN : Hid (need (B 0) = 2) := by show need (B 0) = 2; unfold need; repeat' split <;> omega
  have hL0 : Hid (loAt (B 0) 0 = 128) := by show loAt (B 0) 0 = 128; unfold loAt lo; repeat' split <;> omega
  have hH0 : Hid (hiAt (B 0) 0 = 191) := by show hiAt (B 0) 0 = 191; unfold hiAt hi; repeat' split <;> omega
  have hB0 := hB 0
  have hc0 := hc 0 (by omega)
  obtain ⟨c, HC⟩ : ∃ c, Hid (B 0 = c) := ⟨_, (rfl : B 0 = B 0)⟩
  rw [HC.out] at hx hB0 hc0
  go_enter Trym.func9, Trym.ntmps9
  go_wp2
  go_loop [4, 5, 7] (fun l h i => ∃ k : Nat, k ≤ 3 ∧ i = .int .i64 k ∧ l = .int .u8 (loAt (B 0) k) ∧ h = .int .u8 (hiAt (B 0) k) ∧ ∀ j, j < k → okB B j = true ∧ j + 1 < n) (fun _ _ i => 3 - (intOf i).toNat)
  case atStart => exact ⟨0, by omega, rfl, by rw [hL0.out], by rw [hH0.out], fun j hj => by omega⟩
  case round =>
    obtain ⟨k, hk3, rfl, rfl, rfl, hj⟩ := hrel
    have hbd := bd_at (B 0) k
    obtain ⟨L, HL⟩ : ∃ L, Hid (loAt (B 0) k = L) := ⟨_, (rfl : loAt (B 0) k = loAt (B 0) k)⟩
    obtain ⟨H, HH⟩ : ∃ H, Hid (hiAt (B 0) k = H) := ⟨_, (rfl : hiAt (B 0) k = hiAt (B 0) k)⟩
    rw [HL.out, HH.out] at hbd ⊢
    have HJ := hideIt hj
    clear hj
    have hBk := hB (k + 1)
    by_cases h1 : (k : Int) < 2
    · by_cases h2 : k + 1 < n
      · have hck := hc (k + 1) h2
        by_cases h3 : L ≤ B (k + 1)
        · by_cases h4 : B (k + 1) ≤ H
          · go_wp2
            go_round
            case rel => exact ⟨k + 1, by omega, by go_num, rfl, rfl, goes_on 2 L H hN.out HL.out HH.out HJ.out h1 h2 h3 h4⟩
            case measure => simp [intOf]; omega
          · go_wp2
            go_ret
            exact ⟨k, rfl, ends_hi H HH.out HJ.out (by omega), rfl⟩
        · go_wp2
          go_ret
          exact ⟨k, rfl, ends_lo L HL.out HJ.out (by omega), rfl⟩
      · have h2' : ¬ ((k : Int) + 1 < (n : Int)) := by omega
        go_wp2
        go_ret
        exact ⟨k, rfl, ends_len HJ.out (by omega), rfl⟩
    · go_wp2
      go_ret
      exact ⟨k, rfl, ends_need 2 hN.out HJ.out (by omega), rfl⟩

theorem cont_e (B : Nat → Int) (hB : ∀ k, 0 ≤ B k ∧ B k ≤ 255) (g n cap : Nat) (w : World) (hn : n ≤ maxLen) (hn1 : 1 ≤ n)
    (hc : ∀ k, k < n → w.cell? ⟨g, k, none⟩ = some (.int .u8 (B k))) (hx : B 0 = 240) :
    Calls Trym.prog 9 #[.slice (some ⟨g, 0, none⟩) n cap] w fun e w' => ∃ k : Nat, e = .returned (.int .i64 k) ∧ EndsAt B n k ∧ w = w' := by
  unfold maxLen at hn
  have hN : Hid (need (B 0) = 3) := by show need (B 0) = 3; unfold need; repeat' split <;> omega
  have hL0 : Hid (loAt (B 0) 0 = 144) := by show loAt (B 0) 0 = 144; unfold loAt lo; repeat' split <;> omega
  have hH0 : Hid (hiAt (B 0) 0 = 191) := by show hiAt (B 0) 0 = 191; unfold hiAt hi; repeat' split <;> omega
  have hB0 := hB 0
  have hc0 := hc 0 (by omega)
  obtain ⟨c, HC⟩ : ∃ c, Hid (B 0 = c) := ⟨_, (rfl : B 0 = B 0)⟩
  rw [HC.out] at hx hB0 hc0
  go_enter Trym.func9, Trym.ntmps9
  go_wp2
  go_loop [4, 5, 7] (fun l h i => ∃ k : Nat, k ≤ 3 ∧ i = .int .i64 k ∧ l = .int .u8 (loAt (B 0) k) ∧ h = .int .u8 (hiAt (B 0) k) ∧ ∀ j, j < k → okB B j = true ∧ j + 1 < n) (fun _ _ i => 3 - (intOf i).toNat)
  case atStart => exact ⟨0, by omega, rfl, by rw [hL0.out], by rw [hH0.out], fun j hj => by omega⟩
  case round =>
    obtain ⟨k, hk3, rfl, rfl, rfl, hj⟩ := hrel
    have hbd := bd_at (B 0) k
    obtain ⟨L, HL⟩ : ∃ L, Hid (loAt (B 0) k = L) := ⟨_, (rfl : loAt (B 0) k = loAt (B 0) k)⟩
    obtain ⟨H, HH⟩ : ∃ H, Hid (hiAt (B 0) k = H) := ⟨_, (rfl : hiAt (B 0) k = hiAt (B 0) k)⟩
    rw [HL.out, HH.out] at hbd ⊢
    have HJ := hideIt hj
    clear hj
    have hBk := hB (k + 1)
    by_cases h1 : (k : Int) < 3
    · by_cases h2 : k + 1 < n
      · have hck := hc (k + 1) h2
        by_cases h3 : L ≤ B (k + 1)
        · by_cases h4 : B (k + 1) ≤ H
          · go_wp2
            go_round
            case rel => exact ⟨k + 1, by omega, by go_num, rfl, rfl, goes_on 3 L H hN.out HL.out HH.out HJ.out h1 h2 h3 h4⟩
            case measure => simp [intOf]; omega
          · go_wp2
            go_ret
            exact ⟨k, rfl, ends_hi H HH.out HJ.out (by omega), rfl⟩
        · go_wp2
          go_ret
          exact ⟨k, rfl, ends_lo L HL.out HJ.out (by omega), rfl⟩
      · have h2' : ¬ ((k : Int) + 1 < (n : Int)) := by omega
        go_wp2
        go_ret
        exact ⟨k, rfl, ends_len HJ.out (by omega), rfl⟩
    · go_wp2
      go_ret
      exact ⟨k, rfl, ends_need 3 hN.out HJ.out (by omega), rfl⟩

theorem cont_f (B : Nat → Int) (hB : ∀ k, 0 ≤ B k ∧ B k ≤ 255) (g n cap : Nat) (w : World) (hn : n ≤ maxLen) (hn1 : 1 ≤ n)
    (hc : ∀ k, k < n → w.cell? ⟨g, k, none⟩ = some (.int .u8 (B k))) (hx : B 0 = 244) :
    Calls Trym.prog 9 #[.slice (some ⟨g, 0, none⟩) n cap] w fun e w' => ∃ k : Nat, e = .returned (.int .i64 k) ∧ EndsAt B n k ∧ w = w' := by
  unfold maxLen at hn
  have hN : Hid (need (B 0) = 3) := by show need (B 0) = 3; unfold need; repeat' split <;> omega
  have hL0 : Hid (loAt (B 0) 0 = 128) := by show loAt (B 0) 0 = 128; unfold loAt lo; repeat' split <;> omega
  have hH0 : Hid (hiAt (B 0) 0 = 143) := by show hiAt (B 0) 0 = 143; unfold hiAt hi; repeat' split <;> omega
  have hB0 := hB 0
  have hc0 := hc 0 (by omega)
  obtain ⟨c, HC⟩ : ∃ c, Hid (B 0 = c) := ⟨_, (rfl : B 0 = B 0)⟩
  rw [HC.out] at hx hB0 hc0
  go_enter Trym.func9, Trym.ntmps9
  go_wp2
  go_loop [4, 5, 7] (fun l h i => ∃ k : Nat, k ≤ 3 ∧ i = .int .i64 k ∧ l = .int .u8 (loAt (B 0) k) ∧ h = .int .u8 (hiAt (B 0) k) ∧ ∀ j, j < k → okB B j = true ∧ j + 1 < n) (fun _ _ i => 3 - (intOf i).toNat)
  case atStart => exact ⟨0, by omega, rfl, by rw [hL0.out], by rw [hH0.out], fun j hj => by omega⟩
  case round =>
    obtain ⟨k, hk3, rfl, rfl, rfl, hj⟩ := hrel
    have hbd := bd_at (B 0) k
    obtain ⟨L, HL⟩ : ∃ L, Hid (loAt (B 0) k = L) := ⟨_, (rfl : loAt (B 0) k = loAt (B 0) k)⟩
    obtain ⟨H, HH⟩ : ∃ H, Hid (hiAt (B 0) k = H) := ⟨_, (rfl : hiAt (B 0) k = hiAt (B 0) k)⟩
    rw [HL.out, HH.out] at hbd ⊢
    have HJ := hideIt hj
    clear hj
    have hBk := hB (k + 1)
    by_cases h1 : (k : Int) < 3
    · by_cases h2 : k + 1 < n
      · have hck := hc (k + 1) h2
        by_cases h3 : L ≤ B (k + 1)
        · by_cases h4 : B (k + 1) ≤ H
          · go_wp2
            go_round
            case rel => exact ⟨k + 1, by omega, by go_num, rfl, rfl, goes_on 3 L H hN.out HL.out HH.out HJ.out h1 h2 h3 h4⟩
            case measure => simp [intOf]; omega
          · go_wp2
            go_ret
            exact ⟨k, rfl, ends_hi H HH.out HJ.out (by omega), rfl⟩
        · go_wp2
          go_ret
          exact ⟨k, rfl, ends_lo L HL.out HJ.out (by omega), rfl⟩
      · have h2' : ¬ ((k : Int) + 1 < (n : Int)) := by omega
        go_wp2
        go_ret
        exact ⟨k, rfl, ends_len HJ.out (by omega), rfl⟩
    · go_wp2
      go_ret
      exact ⟨k, rfl, ends_need 3 hN.out HJ.out (by omega), rfl⟩

theorem cont_g (B : Nat → Int) (hB : ∀ k, 0 ≤ B k ∧ B k ≤ 255) (g n cap : Nat) (w : World) (hn : n ≤ maxLen) (hn1 : 1 ≤ n)
    (hc : ∀ k, k < n → w.cell? ⟨g, k, none⟩ = some (.int .u8 (B k))) (hx : 241 ≤ B 0 ∧ B 0 ≤ 243) :
    Calls Trym.prog 9 #[.slice (some ⟨g, 0, none⟩) n cap] w fun e w' => ∃ k : Nat, e = .returned (.int .i64 k) ∧ EndsAt B n k ∧ w = w' := by
  unfold maxLen at hn
  have hN : Hid (need (B 0) = 3) := by show need (B 0) = 3; unfold need; repeat' split <;> omega
  have hL0 : Hid (loAt (B 0) 0 = 128) := by show loAt (B 0) 0 = 128; unfold loAt lo; repeat' split <;> omega
  have hH0 : Hid (hiAt (B 0) 0 = 191) := by show hiAt (B 0) 0 = 191; unfold hiAt hi; repeat' split <;> omega
  have hB0 := hB 0
  have hc0 := hc 0 (by omega)
  obtain ⟨c, HC⟩ : ∃ c, Hid (B 0 = c) := ⟨_, (rfl : B 0 = B 0)⟩
  rw [HC.out] at hx hB0 hc0
  have t1 : (c == 224) = false := beq_eq_false_iff_ne.2 (by omega)
  have t2 : (c == 237) = false := beq_eq_false_iff_ne.2 (by omega)
  have t3 : (c == 240) = false := beq_eq_false_iff_ne.2 (by omega)
  have t4 : (c == 244) = false := beq_eq_false_iff_ne.2 (by omega)
  go_enter Trym.func9, Trym.ntmps9
  go_wp2
  go_loop [4, 5, 7] (fun l h i => ∃ k : Nat, k ≤ 3 ∧ i = .int .i64 k ∧ l = .int .u8 (loAt (B 0) k) ∧ h = .int .u8 (hiAt (B 0) k) ∧ ∀ j, j < k → okB B j = true ∧ j + 1 < n) (fun _ _ i => 3 - (intOf i).toNat)
  case atStart => exact ⟨0, by omega, rfl, by rw [hL0.out], by rw [hH0.out], fun j hj => by omega⟩
  case round =>
    obtain ⟨k, hk3, rfl, rfl, rfl, hj⟩ := hrel
    have hbd := bd_at (B 0) k
    obtain ⟨L, HL⟩ : ∃ L, Hid (loAt (B 0) k = L) := ⟨_, (rfl : loAt (B 0) k = loAt (B 0) k)⟩
    obtain ⟨H, HH⟩ : ∃ H, Hid (hiAt (B 0) k = H) := ⟨_, (rfl : hiAt (B 0) k = hiAt (B 0) k)⟩
    rw [HL.out, HH.out] at hbd ⊢
    have HJ := hideIt hj
    clear hj
    have hBk := hB (k + 1)
    by_cases h1 : (k : Int) < 3
    · by_cases h2 : k + 1 < n
      · have hck := hc (k + 1) h2
        by_cases h3 : L ≤ B (k + 1)
        · by_cases h4 : B (k + 1) ≤ H
          · go_wp2
            go_round
            case rel => exact ⟨k + 1, by omega, by go_num, rfl, rfl, goes_on 3 L H hN.out HL.out HH.out HJ.out h1 h2 h3 h4⟩
            case measure => simp [intOf]; omega
          · go_wp2
            go_ret
            exact ⟨k, rfl, ends_hi H HH.out HJ.out (by omega), rfl⟩
        · go_wp2
          go_ret
          exact ⟨k, rfl, ends_lo L HL.out HJ.out (by omega), rfl⟩
      · have h2' : ¬ ((k : Int) + 1 < (n : Int)) := by omega
        go_wp2
        go_ret
        exact ⟨k, rfl, ends_len HJ.out (by omega), rfl⟩
    · go_wp2
      go_ret
      exact ⟨k, rfl, ends_need 3 hN.out HJ.out (by omega), rfl⟩

theorem cont_h1 (B : Nat → Int) (hB : ∀ k, 0 ≤ B k ∧ B k ≤ 255) (g n cap : Nat) (w : World) (hn : n ≤ maxLen) (hn1 : 1 ≤ n)
    (hc : ∀ k, k < n → w.cell? ⟨g, k, none⟩ = some (.int .u8 (B k))) (hx : B 0 ≤ 193) :
    Calls Trym.prog 9 #[.slice (some ⟨g, 0, none⟩) n cap] w fun e w' => ∃ k : Nat, e = .returned (.int .i64 k) ∧ EndsAt B n k ∧ w = w' := by
  unfold maxLen at hn
  have hN : Hid (need (B 0) = 0) := by show need (B 0) = 0; unfold need; repeat' split <;> omega
  have hL0 : Hid (loAt (B 0) 0 = 128) := by show loAt (B 0) 0 = 128; unfold loAt lo; repeat' split <;> omega
  have hH0 : Hid (hiAt (B 0) 0 = 191) := by show hiAt (B 0) 0 = 191; unfold hiAt hi; repeat' split <;> omega
  have hB0 := hB 0
  have hc0 := hc 0 (by omega)
  obtain ⟨c, HC⟩ : ∃ c, Hid (B 0 = c) := ⟨_, (rfl : B 0 = B 0)⟩
  rw [HC.out] at hx hB0 hc0
  go_enter Trym.func9, Trym.ntmps9
  go_wp2
  go_loop [4, 5, 7] (fun l h i => ∃ k : Nat, k ≤ 3 ∧ i = .int .i64 k ∧ l = .int .u8 (loAt (B 0) k) ∧ h = .int .u8 (hiAt (B 0) k) ∧ ∀ j, j < k → okB B j = true ∧ j + 1 < n) (fun _ _ i => 3 - (intOf i).toNat)
  case atStart => exact ⟨0, by omega, rfl, by rw [hL0.out], by rw [hH0.out], fun j hj => by omega⟩
  case round =>
    obtain ⟨k, hk3, rfl, rfl, rfl, hj⟩ := hrel
    have hbd := bd_at (B 0) k
    obtain ⟨L, HL⟩ : ∃ L, Hid (loAt (B 0) k = L) := ⟨_, (rfl : loAt (B 0) k = loAt (B 0) k)⟩
    obtain ⟨H, HH⟩ : ∃ H, Hid (hiAt (B 0) k = H) := ⟨_, (rfl : hiAt (B 0) k = hiAt (B 0) k)⟩
    rw [HL.out, HH.out] at hbd ⊢
    have HJ := hideIt hj
    clear hj
    have hBk := hB (k + 1)
    by_cases h1 : (k : Int) < 0
    · omega
    · go_wp2
      go_ret
      exact ⟨k, rfl, ends_need 0 hN.out HJ.out (by omega), rfl⟩

theorem cont_h2 (B : Nat → Int) (hB : ∀ k, 0 ≤ B k ∧ B k ≤ 255) (g n cap : Nat) (w : World) (hn : n ≤ maxLen) (hn1 : 1 ≤ n)
    (hc : ∀ k, k < n → w.cell? ⟨g, k, none⟩ = some (.int .u8 (B k))) (hx : 245 ≤ B 0) :
    Calls Trym.prog 9 #[.slice (some ⟨g, 0, none⟩) n cap] w fun e w' => ∃ k : Nat, e = .returned (.int .i64 k) ∧ EndsAt B n k ∧ w = w' := by
  unfold maxLen at hn
  have hN : Hid (need (B 0) = 0) := by show need (B 0) = 0; unfold need; repeat' split <;> omega
  have hL0 : Hid (loAt (B 0) 0 = 128) := by show loAt (B 0) 0 = 128; unfold loAt lo; repeat' split <;> omega
  have hH0 : Hid (hiAt (B 0) 0 = 191) := by show hiAt (B 0) 0 = 191; unfold hiAt hi; repeat' split <;> omega
  have hB0 := hB 0
  have hc0 := hc 0 (by omega)
  obtain ⟨c, HC⟩ : ∃ c, Hid (B 0 = c) := ⟨_, (rfl : B 0 = B 0)⟩
  rw [HC.out] at hx hB0 hc0
  go_enter Trym.func9, Trym.ntmps9
  go_wp2
  go_loop [4, 5, 7] (fun l h i => ∃ k : Nat, k ≤ 3 ∧ i = .int .i64 k ∧ l = .int .u8 (loAt (B 0) k) ∧ h = .int .u8 (hiAt (B 0) k) ∧ ∀ j, j < k → okB B j = true ∧ j + 1 < n) (fun _ _ i => 3 - (intOf i).toNat)
  case atStart => exact ⟨0, by omega, rfl, by rw [hL0.out], by rw [hH0.out], fun j hj => by omega⟩
  case round =>
    obtain ⟨k, hk3, rfl, rfl, rfl, hj⟩ := hrel
    have hbd := bd_at (B 0) k
    obtain ⟨L, HL⟩ : ∃ L, Hid (loAt (B 0) k = L) := ⟨_, (rfl : loAt (B 0) k = loAt (B 0) k)⟩
    obtain ⟨H, HH⟩ : ∃ H, Hid (hiAt (B 0) k = H) := ⟨_, (rfl : hiAt (B 0) k = hiAt (B 0) k)⟩
    rw [HL.out, HH.out] at hbd ⊢
    have HJ := hideIt hj
    clear hj
    have hBk := hB (k + 1)
    by_cases h1 : (k : Int) < 0
    · omega
    · go_wp2
      go_ret
      exact ⟨k, rfl, ends_need 0 hN.out HJ.out (by omega), rfl⟩

theorem cont_any (B : Nat → Int) (hB : ∀ k, 0 ≤ B k ∧ B k ≤ 255) (g n cap : Nat) (w : World) (hn : n ≤ maxLen) (hn1 : 1 ≤ n)
    (hc : ∀ k, k < n → w.cell? ⟨g, k, none⟩ = some (.int .u8 (B k))) :
    Calls Trym.prog 9 #[.slice (some ⟨g, 0, none⟩) n cap] w fun e w' => ∃ k : Nat, e = .returned (.int .i64 k) ∧ EndsAt B n k ∧ w = w' := by
  have hs : (194 ≤ B 0 ∧ B 0 ≤ 223) ∨ B 0 = 224 ∨ B 0 = 237 ∨ (225 ≤ B 0 ∧ B 0 ≤ 236) ∨ (238 ≤ B 0 ∧ B 0 ≤ 239) ∨ B 0 = 240 ∨ B 0 = 244 ∨ (241 ≤ B 0 ∧ B 0 ≤ 243) ∨ B 0 ≤ 193 ∨ 245 ≤ B 0 := by omega
  rcases hs with h | h | h | h | h | h | h | h | h | h
  · exact cont_a B hB g n cap w hn hn1 hc h
  · exact cont_b B hB g n cap w hn hn1 hc h
  · exact cont_c B hB g n cap w hn hn1 hc h
  · exact cont_d1 B hB g n cap w hn hn1 hc h
  · exact cont_d2 B hB g n cap w hn hn1 hc h
  · exact cont_e B hB g n cap w hn hn1 hc h
  · exact cont_f B hB g n cap w hn hn1 hc h
  · exact cont_g B hB g n cap w hn hn1 hc h
  · exact cont_h1 B hB g n cap w hn hn1 hc h
  · exact cont_h2 B hB g n cap w hn hn1 hc h

theorem zzcont_any (B : Nat → Int) (hB : ∀ k, 0 ≤ B k ∧ B k ≤ 255) (g n cap : Nat) (w : World) (hn : n ≤ maxLen) (hn1 : 1 ≤ n)
    (hc : ∀ k, k < n → w.cell? ⟨g, k, none⟩ = some (.int .u8 (B k))) :
    Calls Trym.prog 6 #[.slice (some ⟨g, 0, none⟩) n cap] w fun e w' => ∃ k : Nat, e = .returned (.int .i64 k) ∧ EndsAt B n k ∧ w = w' := by
  have hh := cont_any B hB g n cap w hn hn1 hc
  have HH := hideIt hh
  clear hh hB hc
  go_enter Trym.func6, Trym.ntmps6
  go_wp2_with (first | (go_at_call 9; refine HH.out.mono ?_; rintro e w' ⟨k, rfl, he, rfl⟩))
  go_ret
  exact ⟨k, rfl, he, rfl⟩
end Go.Proofs.Qxb6617839aMods.cms
