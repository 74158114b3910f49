/-
  PLAIN: the two readings of a byte row (the body's table of ranges; the law's payload bits), with no Go in sight. 'B k': the byte at place k.
-/
import Derived.Laws.BitsLemmas
namespace Go.Proofs.Qxb6617839aMods.cms
open Go
set_option linter.unusedVariables false

def leadLen (c : Int) : Int := if c / 32 = 6 then 2 else if c / 16 = 14 then 3 else if c / 8 = 30 then 4 else 0
def meets (lo hi a z : Int) : Bool := decide (lo ≤ z ∧ a ≤ hi)
def need (c : Int) : Int := if 194 ≤ c ∧ c ≤ 223 then 1 else if 224 ≤ c ∧ c ≤ 239 then 2 else if 240 ≤ c ∧ c ≤ 244 then 3 else 0
def lo (c : Int) : Int := if c = 224 then 160 else if c = 240 then 144 else 128
def hi (c : Int) : Int := if c = 237 then 159 else if c = 244 then 143 else 191
/-- the lower and the upper bound that continuation byte number j (from 0) must keep -/
def loAt (c : Int) (j : Nat) : Int := if j = 0 then lo c else 128
def hiAt (c : Int) (j : Nat) : Int := if j = 0 then hi c else 191
def okB (B : Nat → Int) (j : Nat) : Bool := decide ((j : Int) < need (B 0) ∧ loAt (B 0) j ≤ B (j + 1) ∧ B (j + 1) ≤ hiAt (B 0) j)
def allOk (B : Nat → Int) : Nat → Bool
  | 0 => true
  | k + 1 => allOk B k && okB B k
/-- the payload bits gathered so far -/
def V (B : Nat → Int) (q : Int) : Nat → Int
  | 0 => B 0 % q
  | k + 1 => V B q k * 64 + B (k + 1) % 64

theorem wraps_i64 (n : Int) (h₀ : 0 ≤ n) (h₁ : n < 2 ^ 62) : IntKind.i64.wrap n = n := by rw [IntKind.wrap_i64]; omega
theorem i64_or6 (x y : Int) (hx₀ : 0 ≤ x) (hx₁ : x < 16777216) (h₀ : 0 ≤ y) (h₁ : y < 64) : bits .or .i64 (x * 64) y = x * 64 + y :=
  bits_join .i64 62 (by decide) wraps_i64 6 (x * 64) y (by omega) (by omega) (by omega) h₀ h₁ (by omega)
theorem i64_or12 (x y : Int) (hx₀ : 0 ≤ x) (hx₁ : x < 16777216) (h₀ : 0 ≤ y) (h₁ : y < 4096) : bits .or .i64 (x * 4096) y = x * 4096 + y :=
  bits_join .i64 62 (by decide) wraps_i64 12 (x * 4096) y (by omega) (by omega) (by omega) h₀ h₁ (by omega)
theorem i64_or0 (x : Int) (hx₀ : 0 ≤ x) (hx₁ : x < 16777216) : bits .or .i64 x 0 = x := by
  have := bits_join .i64 62 (by decide) wraps_i64 0 x 0 (by omega) (by omega) (by omega) (by omega) (by omega) (by omega)
  simpa using this

theorem V_bd (B : Nat → Int) (hB : ∀ k, 0 ≤ B k ∧ B k ≤ 255) (q : Int) (hq0 : 0 < q) (hq : q ≤ 32) : ∀ k, k ≤ 3 → 0 ≤ V B q k ∧ V B q k < 16777216 := by
  have hb0 := hB 0
  have e0 : 0 ≤ V B q 0 ∧ V B q 0 < 32 := by
    have := Int.emod_nonneg (B 0) (show q ≠ 0 by omega)
    have := Int.emod_lt_of_pos (B 0) hq0
    simp only [V]; omega
  have e1 : 0 ≤ V B q 1 ∧ V B q 1 < 2048 := by
    have : V B q 1 = V B q 0 * 64 + B 1 % 64 := rfl
    omega
  have e2 : 0 ≤ V B q 2 ∧ V B q 2 < 131072 := by
    have : V B q 2 = V B q 1 * 64 + B 2 % 64 := rfl
    omega
  have e3 : 0 ≤ V B q 3 ∧ V B q 3 < 8388608 := by
    have : V B q 3 = V B q 2 * 64 + B 3 % 64 := rfl
    omega
  intro k hk
  match k, hk with
  | 0, _ => omega
  | 1, _ => omega
  | 2, _ => omega
  | 3, _ => omega

theorem V_step (B : Nat → Int) (hB : ∀ k, 0 ≤ B k ∧ B k ≤ 255) (q : Int) (hq0 : 0 < q) (hq : q ≤ 32) (k : Nat) (hk : k ≤ 3) : bits .or .i64 (V B q k * 64) (B (k + 1) % 64) = V B q (k + 1) := by
  have h := V_bd B hB q hq0 hq k hk
  rw [i64_or6 _ _ h.1 h.2 (by omega) (by omega)]
  rfl

/-- a byte that is no continuation byte ends the run -/
theorem allOk_miss (B : Nat → Int) (k j : Nat) (hj : j < k) (h : okB B j = false) : allOk B k = false := by
  induction k with
  | zero => omega
  | succ k ih =>
    simp only [allOk]
    by_cases e : j = k
    · subst e; simp [h]
    · simp [ih (by omega)]
theorem allOk_lo (B : Nat → Int) (k j : Nat) (hj : j < k) (h : allOk B k = true) : okB B j = true := by
  cases e : okB B j with
  | true => rfl
  | false => rw [allOk_miss B k j hj e] at h; cases h
theorem allOk_of (B : Nat → Int) (k : Nat) (h : ∀ j, j < k → okB B j = true) : allOk B k = true := by
  induction k with
  | zero => rfl
  | succ k ih => simp only [allOk]; rw [ih (fun j hj => h j (by omega)), h k (by omega)]; rfl
theorem okB_cont (B : Nat → Int) (j : Nat) (h : okB B j = true) : B (j + 1) / 64 = 2 := by
  have h' : (j : Int) < need (B 0) ∧ loAt (B 0) j ≤ B (j + 1) ∧ B (j + 1) ≤ hiAt (B 0) j := of_decide_eq_true h
  have hl : 128 ≤ loAt (B 0) j := by simp only [loAt, lo]; repeat' split <;> omega
  have hh : hiAt (B 0) j ≤ 191 := by simp only [hiAt, hi]; repeat' split <;> omega
  omega
theorem not_ok (B : Nat → Int) (j : Nat) (h : B (j + 1) / 64 ≠ 2) : okB B j = false := by
  cases e : okB B j with
  | false => rfl
  | true => exact absurd (okB_cont B j e) h
theorem need_lead (c : Int) (_h0 : 0 ≤ c) (_h1 : c ≤ 255) : need c + 1 ≤ leadLen c ∨ (leadLen c = 0 ∧ need c = 0) := by
  simp only [need, leadLen]
  repeat' split
  all_goals omega
theorem allOk_long (B : Nat → Int) (h0 : 0 ≤ B 0) (h1 : B 0 ≤ 255) (m : Nat) (hm : 2 ≤ m) (h : leadLen (B 0) < (m : Int)) : allOk B (m - 1) = false := by
  have hn := need_lead (B 0) h0 h1
  refine allOk_miss B (m - 1) (m - 2) (by omega) ?_
  simp only [okB, decide_eq_false_iff_not]
  omega

/-! ### the interval test answers as the table does -/
theorem lead2 (c : Int) (_h0 : 0 ≤ c) (h : leadLen c = 2) : 192 ≤ c ∧ c ≤ 223 := by
  simp only [leadLen] at h
  repeat' split at h
  all_goals omega
theorem lead3 (c : Int) (_h0 : 0 ≤ c) (h : leadLen c = 3) : 224 ≤ c ∧ c ≤ 239 := by
  simp only [leadLen] at h
  repeat' split at h
  all_goals omega
theorem lead4 (c : Int) (_h0 : 0 ≤ c) (h : leadLen c = 4) : 240 ≤ c ∧ c ≤ 247 := by
  simp only [leadLen] at h
  repeat' split at h
  all_goals omega

theorem ok_first (B : Nat → Int) : okB B 0 = decide (0 < need (B 0) ∧ lo (B 0) ≤ B 1 ∧ B 1 ≤ hi (B 0)) := by simp [okB, loAt, hiAt]
theorem ok_next (B : Nat → Int) (j : Nat) (h0 : 0 ≤ B (j + 2)) (hc : B (j + 2) / 64 = 2) : okB B (j + 1) = decide ((j : Int) + 1 < need (B 0)) := by
  have e : B (j + 1 + 1) = B (j + 2) := rfl
  simp only [okB, loAt, hiAt, e]
  rw [Bool.eq_iff_iff]
  simp only [decide_eq_true_eq]
  simp
  omega

theorem fin22 (B : Nat → Int) (hB : ∀ k, 0 ≤ B k ∧ B k ≤ 255) (hl : leadLen (B 0) = 2) (h1 : B 1 / 64 = 2) : meets (V B 32 1) (V B 32 1) 128 2047 = allOk B 1 := by
  have hb0 := hB 0
  have hb1 := hB 1
  have hr := lead2 _ hb0.1 hl
  rw [Bool.eq_iff_iff]
  simp only [allOk, ok_first, meets, Bool.true_and, decide_eq_true_eq]
  have e1 : V B 32 1 = B 0 % 32 * 64 + B 1 % 64 := rfl
  simp only [need, lo, hi]
  repeat' split
  all_goals omega

theorem fin32 (B : Nat → Int) (hB : ∀ k, 0 ≤ B k ∧ B k ≤ 255) (hl : leadLen (B 0) = 3) (h1 : B 1 / 64 = 2) :
    (meets (V B 16 1 * 64) (V B 16 1 * 64 + 63) 2048 55295 || meets (V B 16 1 * 64) (V B 16 1 * 64 + 63) 57344 65535) = allOk B 1 := by
  have hb0 := hB 0
  have hb1 := hB 1
  have hr := lead3 _ hb0.1 hl
  rw [Bool.eq_iff_iff]
  simp only [allOk, ok_first, meets, Bool.true_and, Bool.or_eq_true, decide_eq_true_eq]
  have e1 : V B 16 1 = B 0 % 16 * 64 + B 1 % 64 := rfl
  simp only [need, lo, hi]
  repeat' split
  all_goals omega

theorem fin33 (B : Nat → Int) (hB : ∀ k, 0 ≤ B k ∧ B k ≤ 255) (hl : leadLen (B 0) = 3) (h1 : B 1 / 64 = 2) (h2 : B 2 / 64 = 2) :
    (meets (V B 16 2) (V B 16 2) 2048 55295 || meets (V B 16 2) (V B 16 2) 57344 65535) = allOk B 2 := by
  have hb0 := hB 0
  have hb1 := hB 1
  have hb2 := hB 2
  have hr := lead3 _ hb0.1 hl
  have hn := ok_next B 0 hb2.1 h2
  rw [Bool.eq_iff_iff]
  simp only [allOk, ok_first, hn, meets, Bool.true_and, Bool.and_eq_true, Bool.or_eq_true, decide_eq_true_eq]
  have e1 : V B 16 1 = B 0 % 16 * 64 + B 1 % 64 := rfl
  have e2 : V B 16 2 = V B 16 1 * 64 + B 2 % 64 := rfl
  simp only [need, lo, hi]
  repeat' split
  all_goals omega

theorem fin42 (B : Nat → Int) (hB : ∀ k, 0 ≤ B k ∧ B k ≤ 255) (hl : leadLen (B 0) = 4) (h1 : B 1 / 64 = 2) :
    meets (V B 8 1 * 4096) (V B 8 1 * 4096 + 4095) 65536 1114111 = allOk B 1 := by
  have hb0 := hB 0
  have hb1 := hB 1
  have hr := lead4 _ hb0.1 hl
  rw [Bool.eq_iff_iff]
  simp only [allOk, ok_first, meets, Bool.true_and, decide_eq_true_eq]
  have e1 : V B 8 1 = B 0 % 8 * 64 + B 1 % 64 := rfl
  simp only [need, lo, hi]
  repeat' split
  all_goals omega

theorem fin43 (B : Nat → Int) (hB : ∀ k, 0 ≤ B k ∧ B k ≤ 255) (hl : leadLen (B 0) = 4) (h1 : B 1 / 64 = 2) (h2 : B 2 / 64 = 2) :
    meets (V B 8 2 * 64) (V B 8 2 * 64 + 63) 65536 1114111 = allOk B 2 := by
  have hb0 := hB 0
  have hb1 := hB 1
  have hb2 := hB 2
  have hr := lead4 _ hb0.1 hl
  have hn := ok_next B 0 hb2.1 h2
  rw [Bool.eq_iff_iff]
  simp only [allOk, ok_first, hn, meets, Bool.true_and, Bool.and_eq_true, decide_eq_true_eq]
  have e1 : V B 8 1 = B 0 % 8 * 64 + B 1 % 64 := rfl
  have e2 : V B 8 2 = V B 8 1 * 64 + B 2 % 64 := rfl
  simp only [need, lo, hi]
  repeat' split
  all_goals omega

theorem fin44 (B : Nat → Int) (hB : ∀ k, 0 ≤ B k ∧ B k ≤ 255) (hl : leadLen (B 0) = 4) (h1 : B 1 / 64 = 2) (h2 : B 2 / 64 = 2) (h3 : B 3 / 64 = 2) :
    meets (V B 8 3) (V B 8 3) 65536 1114111 = allOk B 3 := by
  have hb0 := hB 0
  have hb1 := hB 1
  have hb2 := hB 2
  have hb3 := hB 3
  have hr := lead4 _ hb0.1 hl
  have hn := ok_next B 0 hb2.1 h2
  have hn2 := ok_next B 1 hb3.1 h3
  rw [Bool.eq_iff_iff]
  simp only [allOk, ok_first, hn, hn2, meets, Bool.true_and, Bool.and_eq_true, decide_eq_true_eq]
  have e1 : V B 8 1 = B 0 % 8 * 64 + B 1 % 64 := rfl
  have e2 : V B 8 2 = V B 8 1 * 64 + B 2 % 64 := rfl
  have e3 : V B 8 3 = V B 8 2 * 64 + B 3 % 64 := rfl
  simp only [need, lo, hi]
  repeat' split
  all_goals omega

/-- two descriptions of one number: the first place where the run ends; the greatest length that was met -/
theorem same_end (B : Nat → Int) (n k W : Nat) (hk : ∀ j, j < k → okB B j = true ∧ j + 1 < n) (hk' : ¬ (okB B k = true ∧ k + 1 < n))
    (hn : 1 ≤ n) (hW : allOk B W = true) (hWn : W < n) (hW' : ∀ j, W < j → j < n → j < 4 → allOk B j = false) : k = W := by
  have h3 : ∀ j, okB B j = true → j < 3 := by
    intro j hj
    have hx : (j : Int) < need (B 0) := by simp only [okB, decide_eq_true_eq] at hj; exact hj.1
    have : need (B 0) ≤ 3 := by simp only [need]; repeat' split <;> omega
    omega
  have hkn : k < n := by
    by_cases e : k = 0
    · omega
    · have := (hk (k - 1) (by omega)).2; omega
  have hk4 : k < 4 := by
    by_cases e : k = 0
    · omega
    · have := h3 (k - 1) (hk (k - 1) (by omega)).1; omega
  have hka : allOk B k = true := allOk_of B k (fun j hj => (hk j hj).1)
  by_cases h1 : W < k
  · rw [hW' k h1 hkn hk4] at hka; cases hka
  · by_cases h2 : k < W
    · exact absurd ⟨allOk_lo B W k h2 hW, by omega⟩ hk'
    · omega
end Go.Proofs.Qxb6617839aMods.cms
