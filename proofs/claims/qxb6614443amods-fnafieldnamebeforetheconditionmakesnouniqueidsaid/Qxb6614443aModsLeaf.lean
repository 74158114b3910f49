/-
  THE WALKS of the functions beneath the law.
-/
import Derived.Test.Qxb6614443aModsRows
import Derived.WalkKit
import Derived.ProofKit
import Derived.WalkSpells
import Derived.WalkLawsBesides
namespace Go.Proofs.Qxb6614443aMods.uid
open Go.ChangeShapes Go.WideShapes Go.ChangeAt Go.RowKit
set_option linter.unusedVariables false

theorem hideIt {p : Prop} (h : p) : Hid p := h
/-- an ASCII punctuation character -/
def punct (c : Int) : Bool := decide ((33 ≤ c ∧ c ≤ 47) ∨ (58 ≤ c ∧ c ≤ 64) ∨ (91 ≤ c ∧ c ≤ 96) ∨ (123 ≤ c ∧ c ≤ 126))
theorem nine (c : Int) (h0 : 0 ≤ c) : (c ≤ 32 ∧ punct c = false) ∨ ((33 ≤ c ∧ c ≤ 47) ∧ punct c = true) ∨ ((48 ≤ c ∧ c ≤ 57) ∧ punct c = false) ∨ ((58 ≤ c ∧ c ≤ 64) ∧ punct c = true) ∨ ((65 ≤ c ∧ c ≤ 90) ∧ punct c = false) ∨
    ((91 ≤ c ∧ c ≤ 96) ∧ punct c = true) ∨ ((97 ≤ c ∧ c ≤ 122) ∧ punct c = false) ∨ ((123 ≤ c ∧ c ≤ 126) ∧ punct c = true) ∨ (127 ≤ c ∧ punct c = false) := by
  simp only [punct, decide_eq_true_eq, decide_eq_false_iff_not]
  omega

theorem graphic_any (c : Int) (w : World) (h0 : 0 ≤ c) (h1 : c ≤ 255) :
    Calls Trym.prog 5 #[.int .u8 c] w fun e w' => e = .returned (.bool (punct c)) ∧ w = w' := by
  rcases nine c h0 with ⟨h, hp⟩ | ⟨h, hp⟩ | ⟨h, hp⟩ | ⟨h, hp⟩ | ⟨h, hp⟩ | ⟨h, hp⟩ | ⟨h, hp⟩ | ⟨h, hp⟩ | ⟨h, hp⟩
  all_goals
    rw [hp]
    clear hp
    go_enter Trym.func5, Trym.ntmps5
    go_wp2
    all_goals (go_ret; exact ⟨rfl, rfl⟩)

theorem punct_any (c : Int) (w : World) (h0 : 0 ≤ c) (h1 : c ≤ 255) :
    Calls Trym.prog 9 #[.int .u8 c] w fun e w' => e = .returned (.bool (punct c)) ∧ w = w' := by
  rcases nine c h0 with ⟨h, hp⟩ | ⟨h, hp⟩ | ⟨h, hp⟩ | ⟨h, hp⟩ | ⟨h, hp⟩ | ⟨h, hp⟩ | ⟨h, hp⟩ | ⟨h, hp⟩ | ⟨h, hp⟩
  all_goals
    rw [hp]
    clear hp
    go_enter Trym.func9, Trym.ntmps9
    go_wp2
    all_goals (go_ret; exact ⟨by simp; try omega, rfl⟩)

def Says (F : Prop) (w : World) (e : Ending) (w' : World) : Prop := ∃ r : Bool, e = .returned (.bool r) ∧ (r = true → F) ∧ w = w'
theorem says_no {F : Prop} {w : World} : Says F w (.returned (.bool false)) w := ⟨false, rfl, (fun h => by cases h), rfl⟩
theorem says_yes {F : Prop} {w : World} (h : F) : Says F w (.returned (.bool true)) w := ⟨true, rfl, fun _ => h, rfl⟩

theorem bytes_any (f v : ByteArray) (c : Int) (w : World) (hf : f.size ≤ maxLen) (hv : v.size ≤ maxLen) :
    Calls Trym.prog 4 #[.string f, .int .u8 c, .string v] w fun e w' => Says (f.size ≤ 1048576 ∧ v.size ≤ 1048576) w e w' := by
  unfold maxLen at hf hv
  go_enter Trym.func4, Trym.ntmps4
  go_wp2
  all_goals (go_ret)
  all_goals first | exact says_no | exact says_yes ⟨by omega, by omega⟩

def CS : ByteArray := ⟨#[33, 61, 47, 94, 36, 126, 60, 62, 123, 125, 35]⟩
theorem cs_punct : ∀ k : Fin 11, punct ((CS[k.val]'k.isLt).toNat : Int) = true := by decide +kernel

theorem cond_any (c : Int) (w : World) (h0 : 0 ≤ c) (h1 : c ≤ 255) :
    Calls Trym.prog 6 #[.int .u8 c] w fun e w' => Says (punct c = true) w e w' := by
  go_enter Trym.func6, Trym.ntmps6
  go_wp2
  go_loop [3] (fun i => ∃ k : Nat, k ≤ 11 ∧ i = .int .i64 k) (fun i => 11 - (intOf i).toNat)
  case atStart => exact ⟨0, by omega, rfl⟩
  case round =>
    obtain ⟨k, hk, rfl⟩ := hrel
    by_cases hlt : k < 11
    · have hks : k < (⟨#[33, 61, 47, 94, 36, 126, 60, 62, 123, 125, 35]⟩ : ByteArray).size := hlt
      go_wp2
      · have he : (((⟨#[33, 61, 47, 94, 36, 126, 60, 62, 123, 125, 35]⟩ : ByteArray)[k].toNat : Int) == c) = true := by assumption
        have hp := cs_punct ⟨k, hlt⟩
        have hc : ((CS[k]'hlt).toNat : Int) = c := eq_of_beq he
        go_ret
        rw [hc] at hp
        exact says_yes hp
      · go_round
        case rel => exact ⟨k + 1, by omega, by go_num⟩
        case measure => simp [intOf]; omega
    · obtain rfl : k = 11 := by omega
      go_wp2
      go_ret
      exact says_no

theorem uniq8 (t : ByteArray) (w : World) (hp : 0 < t.size) :
    Calls Trym.prog 8 #[.string t] w fun e w' => e = .returned (.bool (punct ((t[0]'hp).toNat : Int))) ∧ w = w' := by
  have hb := (t[0]'hp).toNat_lt
  go_enter Trym.func8, Trym.ntmps8
  go_wp2_with (first | (go_at_call 9; refine (punct_any _ _ (by omega) (by omega)).mono ?_; rintro e w' ⟨rfl, rfl⟩))
  go_ret
  exact ⟨rfl, rfl⟩
theorem uniq_any (t : ByteArray) (w : World) (hp : 0 < t.size) :
    Calls Trym.prog 7 #[.string t] w fun e w' => e = .returned (.bool (punct ((t[0]'hp).toNat : Int))) ∧ w = w' := by
  have H := hideIt (uniq8 t w hp)
  go_enter Trym.func7, Trym.ntmps7
  go_wp2_with (first | (go_at_call 8; refine H.out.mono ?_; rintro e w' ⟨rfl, rfl⟩))
  go_ret
  exact ⟨rfl, rfl⟩
end Go.Proofs.Qxb6614443aMods.uid
