/-
  THE WALK of the law (function 3).
-/
import Derived.Test.Qxb6614443aModsLeaf
import Derived.OpenShut
namespace Go.Proofs.Qxb6614443aMods.uid
open Go.ChangeShapes Go.WideShapes Go.ChangeAt Go.RowKit
set_option linter.unusedVariables false

theorem uniq_val (t : ByteArray) (w : World) (b : Bool) (h : 0 < t.size) (hb : punct ((t[0]'h).toNat : Int) = b) :
    Calls Trym.prog 7 #[.string t] w fun e w' => e = .returned (.bool b) ∧ w = w' := by
  subst hb
  exact uniq_any t w h

theorem one_byte (c : Int) (h0 : 0 ≤ c) (h1 : c ≤ 255) (w : World) : ∃ C : ByteArray, ∃ hs : 0 < C.size, C.size ≤ 1 ∧ ((C[0]'hs).toNat : Int) = c ∧
    (convert 24 9 (.slice (some ⟨w.heap.size, 0, none⟩) 1 1)).run Trym.prog (w.alloc (.cells #[.int .u8 c] 5)) = .ok (.string C) (w.alloc (.cells #[.int .u8 c] 5)) := by
  have e : (((UInt8.ofNat c.toNat).toNat : Nat) : Int) = c := by
    rw [UInt8.toNat_ofNat']
    omega
  refine ⟨⟨#[UInt8.ofNat c.toNat]⟩, Nat.zero_lt_one, Nat.le_refl 1, e, ?_⟩
  have := run_convert_bytes_back (P := Trym.prog) (w.alloc (.cells #[.int .u8 c] 5)) 24 9 5 ⟨w.heap.size, 0, none⟩ 1 [UInt8.ofNat c.toNat] Trym.underlying24 Trym.underlying5 Trym.underlying9 (fun j hj => by
    match j, hj with
    | 0, _ =>
      rw [show ([UInt8.ofNat c.toNat][0]).toNat = (UInt8.ofNat c.toNat).toNat from rfl, e]
      simp [Addr.add])
  exact this

theorem first_of (a b : ByteArray) (ha : 0 < a.size) (hab : 0 < (a ++ b).size) : (a ++ b)[0]'hab = a[0]'ha := by
  rw [ByteArray.getElem_append_left ha]

theorem walk_core (f v : ByteArray) (c : Int) (w : World) (hf : f.size ≤ 524288) (hv : v.size ≤ 524288) (hf0 : 1 ≤ f.size) (h0 : 0 ≤ c) (h1 : c ≤ 255) :
    Calls Trym.prog 3 #[.string f, .int .u8 c, .string v] w fun e w' => e = .returned (.bool true) ∧ Grown w w' := by
  have H4 := hideIt (bytes_any f v c w (by unfold maxLen; omega) (by unfold maxLen; omega))
  have H6 := hideIt (cond_any c w h0 h1)
  obtain ⟨C, hCs, hCl, hC0, hconv⟩ := one_byte c h0 h1 w
  have HC0 := hideIt hC0
  clear hC0
  have hz : ((f.size : Int) == 0) = false := beq_eq_false_iff_ne.2 (by omega)
  go_enter Trym.func3, Trym.ntmps3
  go_wp2_with (first | (go_at_call 4; refine H4.out.mono ?_; rintro e w' ⟨r, rfl, hr, rfl⟩))
  · go_ret; exact ⟨rfl, Grown.refl _⟩
  go_loop [7] (fun i => ∃ k : Nat, k ≤ f.size ∧ i = .int .i64 k ∧ (0 < k → punct ((f[0]'(by omega)).toNat : Int) = false)) (fun i => f.size - (intOf i).toNat)
  case atStart => exact ⟨0, Nat.zero_le _, rfl, fun h => absurd h (by omega)⟩
  case round =>
    obtain ⟨k, hk, rfl, hp0⟩ := hrel
    have HP := hideIt hp0
    clear hp0
    by_cases hlt : k < f.size
    · have hb := (f[k]'hlt).toNat_lt
      have hg := graphic_any ((f[k]'hlt).toNat : Int) w (by omega) (by omega)
      cases hpk : punct ((f[k]'hlt).toNat : Int)
      · rw [hpk] at hg
        have HG := hideIt hg
        have HPK := hideIt hpk
        clear hg hpk
        go_wp2_with (first | (go_at_call 5; refine HG.out.mono ?_; rintro e w' ⟨rfl, rfl⟩))
        go_round
        case rel => exact ⟨k + 1, by omega, by go_num, fun _ => by
          by_cases e : k = 0
          · subst e; exact HPK.out
          · exact HP.out (by omega)⟩
        case measure => simp [intOf]; omega
      · rw [hpk] at hg
        have HG := hideIt hg
        clear hg hpk
        go_wp2_with (first | (go_at_call 5; refine HG.out.mono ?_; rintro e w' ⟨rfl, rfl⟩))
        go_ret
        exact ⟨rfl, Grown.refl _⟩
    · have HP1 := hideIt (HP.out (by omega))
      clear HP
      have a1 := fun w => run_string_add_sum (P := Trym.prog) w f C (by omega)
      have a2 := fun w => run_string_add_sum (P := Trym.prog) w (f ++ C) v (by rw [ByteArray.size_append]; omega)
      have a3 := fun w => run_string_add_sum (P := Trym.prog) w C v (by omega)
      go_wp2_with (first | (go_at_call 6; refine H6.out.mono ?_; rintro e w' ⟨r6, rfl, hr6, rfl⟩))
      · go_ret; exact ⟨rfl, Grown.refl _⟩
      have z1 : 0 < (f ++ C).size := by rw [ByteArray.size_append]; omega
      have z2 : 0 < (f ++ C ++ v).size := by rw [ByteArray.size_append]; omega
      have z3 : 0 < (C ++ v).size := by rw [ByteArray.size_append]; omega
      have hpc : punct c = true := hr6 (by simpa using ‹(!r6) = false›)
      have U1 := hideIt (fun wx => uniq_val (f ++ C ++ v) wx false z2 (by rw [first_of (f ++ C) v z1, first_of f C (by omega)]; exact HP1.out))
      have U2 := hideIt (fun wx => uniq_val (C ++ v) wx true z3 (by rw [first_of C v hCs, HC0.out]; exact hpc))
      clear hpc z1 z2 z3
      refine (U1.out _).mono ?_
      rintro e w' ⟨rfl, rfl⟩
      go_wp2_with fail
      refine (U2.out _).mono ?_
      rintro e w' ⟨rfl, rfl⟩
      go_wp2_with fail
      go_ret
      exact ⟨rfl, (Grown.refl _).alloc _ _⟩

theorem walk_early (f v : ByteArray) (c : Int) (w : World) (hf : f.size ≤ maxLen) (hv : v.size ≤ maxLen) (h : 524288 < f.size ∨ 524288 < v.size ∨ f.size = 0) :
    Calls Trym.prog 3 #[.string f, .int .u8 c, .string v] w fun e w' => e = .returned (.bool true) ∧ Grown w w' := by
  have H4 := hideIt (bytes_any f v c w hf hv)
  unfold maxLen at hf hv
  by_cases hb : 524288 < f.size
  · go_enter Trym.func3, Trym.ntmps3
    go_wp2_with (first | (go_at_call 4; refine H4.out.mono ?_; rintro e w' ⟨r, rfl, hr, rfl⟩))
    all_goals (go_ret; exact ⟨rfl, Grown.refl _⟩)
  · by_cases hb2 : 524288 < v.size
    · go_enter Trym.func3, Trym.ntmps3
      go_wp2_with (first | (go_at_call 4; refine H4.out.mono ?_; rintro e w' ⟨r, rfl, hr, rfl⟩))
      all_goals (go_ret; exact ⟨rfl, Grown.refl _⟩)
    · have h0 : f.size ≤ 0 := by omega
      go_enter Trym.func3, Trym.ntmps3
      go_wp2_with (first | (go_at_call 4; refine H4.out.mono ?_; rintro e w' ⟨r, rfl, hr, rfl⟩))
      all_goals (go_ret; exact ⟨rfl, Grown.refl _⟩)

theorem walk (a0 : ByteArray) (a1 : Int) (a2 : ByteArray) (w0 : a0.size ≤ maxLen) (w1 : (Lit.int .u8 a1).wf = true) (w2 : a2.size ≤ maxLen) (w : World) :
    Calls Trym.prog 3 #[.string a0, .int .u8 a1, .string a2] w fun e w' => e = .returned (.bool true) ∧ Grown w w' := by
  have hb := bounds_u8 w1
  by_cases h : 524288 < a0.size ∨ 524288 < a2.size ∨ a0.size = 0
  · exact walk_early a0 a2 a1 w w0 w2 h
  · exact walk_core a0 a2 a1 w (by omega) (by omega) (by omega) hb.1 hb.2
end Go.Proofs.Qxb6614443aMods.uid
