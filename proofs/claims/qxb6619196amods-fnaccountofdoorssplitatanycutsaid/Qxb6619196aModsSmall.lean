/-
  THE WALKS of the two bounds (functions 5, 9, 6) and of the small functions (8, 10).
-/
import Derived.Test.Qxb6619196aModsZz
namespace Go.Proofs.Qxb6619196aMods.acd
open Go.ChangeShapes Go.WideShapes Go.ChangeAt Go.RowKit
set_option linter.unusedVariables false

/-- the providers as they came in, at whatever address -/
def Came (w : World) (pa : Option Addr) (pn : Nat) (P : Nat → ByteArray) : Prop := Gave w pa pn P ∧ pn ≤ maxLen ∧ ∀ k, k < pn → (P k).size ≤ maxLen

/-- it answers a bool; if it says yes, F holds; the world stands -/
def Says (F : Prop) (w : World) (e : Ending) (w' : World) : Prop := ∃ r : Bool, e = .returned (.bool r) ∧ (r = true → F) ∧ w = w'
theorem says_no {F : Prop} {w : World} : Says F w (.returned (.bool false)) w := ⟨false, rfl, (fun h => by cases h), rfl⟩
theorem says_yes {F : Prop} {w : World} (h : F) : Says F w (.returned (.bool true)) w := ⟨true, rfl, fun _ => h, rfl⟩

def Fits (pn : Nat) (P : Nat → ByteArray) : Prop := pn ≤ 1048576 ∧ ∀ k, k < pn → (P k).size ≤ 1048576

set_option maxHeartbeats 1000000 in
theorem bytesD (id em un : ByteArray) (ev pb kb : Bool) (pa : Option Addr) (pn pc : Nat) (P : Nat → ByteArray) (w : World) (hid : id.size ≤ maxLen) (hem : em.size ≤ maxLen) (hun : un.size ≤ maxLen) (hcame : Came w pa pn P) :
    Calls Trym.prog 5 #[.string id, .string em, .bool ev, .string un, .bool pb, .slice pa pn pc, .bool kb] w fun e w' => Says (Fits pn P) w e w' := by
  obtain ⟨hg, hpn, hsz⟩ := hcame
  have HG := hideIt hg
  have HS := hideIt hsz
  clear hg hsz
  unfold maxLen at hid hem hun hpn
  go_enter Trym.func5, Trym.ntmps5
  go_wp2
  all_goals (try (go_ret; exact says_no))
  go_loop [15, 16] (fun z i => ∃ k : Nat, ∃ t : Int, k ≤ pn ∧ i = .int .i64 k ∧ z = .int .i64 t ∧ 0 ≤ t ∧ t ≤ 1048576 ∧ ∀ j, j < k → (P j).size ≤ 1048576) (fun _ i => pn - (intOf i).toNat)
  case atStart => exact ⟨0, _, Nat.zero_le _, rfl, rfl, by omega, by omega, fun j hj => by omega⟩
  case round =>
    obtain ⟨k, t, hk, rfl, rfl, ht0, ht1, hj⟩ := hrel
    have HJ := hideIt hj
    clear hj
    by_cases hlt : k < pn
    · obtain ⟨b, off, rfl, hcl⟩ := HG.out (by omega)
      have hck := hcl k hlt
      have hsk := HS.out k hlt
      unfold maxLen at hsk
      clear hcl
      go_wp2
      · go_ret; exact says_no
      · go_ret; exact says_no
      · go_round
        case rel => exact ⟨k + 1, _, by omega, by go_num, rfl, by omega, by omega, fun j hj => by
          by_cases e : j = k
          · subst e; omega
          · exact HJ.out j (by omega)⟩
        case measure => simp [intOf]; omega
    · obtain rfl : k = pn := by omega
      go_wp2
      go_ret
      exact says_yes ⟨by omega, HJ.out⟩

set_option maxHeartbeats 1000000 in
theorem bytesS (id em un : ByteArray) (ev pb kb : Bool) (cut : Int) (pa : Option Addr) (pn pc : Nat) (P : Nat → ByteArray) (w : World) (hid : id.size ≤ maxLen) (hem : em.size ≤ maxLen) (hun : un.size ≤ maxLen) (hcame : Came w pa pn P) :
    Calls Trym.prog 9 #[.string id, .string em, .bool ev, .string un, .bool pb, .slice pa pn pc, .bool kb, .int .i64 cut] w fun e w' => Says (Fits pn P) w e w' := by
  obtain ⟨hg, hpn, hsz⟩ := hcame
  have HG := hideIt hg
  have HS := hideIt hsz
  clear hg hsz
  unfold maxLen at hid hem hun hpn
  go_enter Trym.func9, Trym.ntmps9
  go_wp2
  all_goals (try (go_ret; exact says_no))
  go_loop [17, 18] (fun z i => ∃ k : Nat, ∃ t : Int, k ≤ pn ∧ i = .int .i64 k ∧ z = .int .i64 t ∧ 0 ≤ t ∧ t ≤ 1048576 ∧ ∀ j, j < k → (P j).size ≤ 1048576) (fun _ i => pn - (intOf i).toNat)
  case atStart => exact ⟨0, _, Nat.zero_le _, rfl, rfl, by omega, by omega, fun j hj => by omega⟩
  case round =>
    obtain ⟨k, t, hk, rfl, rfl, ht0, ht1, hj⟩ := hrel
    have HJ := hideIt hj
    clear hj
    by_cases hlt : k < pn
    · obtain ⟨b, off, rfl, hcl⟩ := HG.out (by omega)
      have hck := hcl k hlt
      have hsk := HS.out k hlt
      unfold maxLen at hsk
      clear hcl
      go_wp2
      · go_ret; exact says_no
      · go_ret; exact says_no
      · go_round
        case rel => exact ⟨k + 1, _, by omega, by go_num, rfl, by omega, by omega, fun j hj => by
          by_cases e : j = k
          · subst e; omega
          · exact HJ.out j (by omega)⟩
        case measure => simp [intOf]; omega
    · obtain rfl : k = pn := by omega
      go_wp2
      go_ret
      exact says_yes ⟨by omega, HJ.out⟩

set_option maxHeartbeats 1000000 in
theorem fits_any (id em un : ByteArray) (pa : Option Addr) (pn pc : Nat) (P : Nat → ByteArray) (w : World) (hid : id.size ≤ maxLen) (hem : em.size ≤ maxLen) (hun : un.size ≤ maxLen) (hcame : Came w pa pn P) :
    Calls Trym.prog 6 #[.string id, .string em, .string un, .slice pa pn pc] w fun e w' => Says True w e w' := by
  obtain ⟨hg, hpn, hsz⟩ := hcame
  have HG := hideIt hg
  have HS := hideIt hsz
  clear hg hsz
  unfold maxLen at hid hem hun hpn
  go_enter Trym.func6, Trym.ntmps6
  go_wp2
  all_goals (try (go_ret; exact says_no))
  go_loop [9, 10] (fun z i => ∃ k : Nat, ∃ t : Int, k ≤ pn ∧ i = .int .i64 k ∧ z = .int .i64 t ∧ 0 ≤ t ∧ t ≤ 1048576) (fun _ i => pn - (intOf i).toNat)
  case atStart => exact ⟨0, _, Nat.zero_le _, rfl, rfl, by omega, by omega⟩
  case round =>
    obtain ⟨k, t, hk, rfl, rfl, ht0, ht1⟩ := hrel
    by_cases hlt : k < pn
    · obtain ⟨b, off, rfl, hcl⟩ := HG.out (by omega)
      have hck := hcl k hlt
      have hsk := HS.out k hlt
      unfold maxLen at hsk
      clear hcl
      go_wp2
      · go_ret; exact says_no
      · go_ret; exact says_no
      · go_round
        case rel => exact ⟨k + 1, _, by omega, by go_num, rfl, by omega, by omega⟩
        case measure => simp [intOf]; omega
    · obtain rfl : k = pn := by omega
      go_wp2
      go_ret
      exact says_yes trivial

/-- the door begins as a door of a provider does -/
def isOidc (s : ByteArray) : Bool := decide (5 ≤ s.size) && (s.extract 0 5).toList == [111, 105, 100, 99, 58]
theorem ret_bool {a b : Bool} (h : a = b) : Ending.returned (.bool a) = .returned (.bool b) := by rw [h]
theorem oidc_any (s : ByteArray) (w : World) (hs : s.size ≤ maxLen) :
    Calls Trym.prog 8 #[.string s] w fun e w' => e = .returned (.bool (isOidc s)) ∧ w = w' := by
  unfold maxLen at hs
  go_enter Trym.func8, Trym.ntmps8
  go_wp2
  all_goals (go_ret)
  · exact ⟨ret_bool (by have h5 : 5 ≤ s.size := by omega
                        simp [isOidc, h5]), rfl⟩
  · exact ⟨ret_bool (by have h5 : ¬ 5 ≤ s.size := by omega
                        simp [isOidc, h5]), rfl⟩

theorem b2i_any (x : Bool) (w : World) : Calls Trym.prog 10 #[.bool x] w fun e w' => e = .returned (.int .i64 (if x then 1 else 0)) ∧ w = w' := by
  cases x
  · go_enter Trym.func10, Trym.ntmps10
    go_wp2
    go_ret
    exact ⟨rfl, rfl⟩
  · go_enter Trym.func10, Trym.ntmps10
    go_wp2
    go_ret
    exact ⟨rfl, rfl⟩
end Go.Proofs.Qxb6619196aMods.acd
