/-
  THE WALK of the law 'FnAccountOfDoorsDecodeBack' (function 3): one walk a kind of input (the providers nil or not; the two flags; where both flags are off, no provider or some).
-/
import Derived.Test.Qxb6619196aModsDoors
namespace Go.Proofs.Qxb6619196aMods.acd
open Go.ChangeShapes Go.WideShapes Go.ChangeAt Go.RowKit
set_option linter.unusedVariables false

theorem drawn (w : World) (n : Nat) : Below w.heap.size w (w.drewN n) := below_drewN (Below.refl _ _) n
theorem doors_pk0 (P : Nat → ByteArray) (pn : Nat) (h : pn ≤ 0) : (doors false P pn true)[0]? = some PK := by
  obtain rfl : pn = 0 := by omega
  exact doors_pk false P 0

set_option maxRecDepth 100000 in
set_option maxHeartbeats 2000000 in
theorem dec_some_true_true (id em un : ByteArray) (ev : Bool) (x : Addr) (pn pc : Nat) (P : Nat → ByteArray) (w : World) (hid : id.size ≤ maxLen) (hem : em.size ≤ maxLen) (hun : un.size ≤ maxLen) (hcame : Came w (some x) pn P) :
    Calls Trym.prog 3 #[.string id, .string em, .bool ev, .string un, .bool true, .slice (some x) pn pc, .bool true] w fun e w' => e = .returned (.bool true) ∧ Below w.heap.size w w' := by
  have H5 := hideIt (bytesD id em un ev true true (some x) pn pc P w hid hem hun hcame)
  have H6 := hideIt (fits_any id em un (some x) pn pc P w hid hem hun hcame)
  have hpm : pn ≤ maxLen := hcame.2.1
  unfold maxLen at hpm
  have HG := hideIt hcame.1
  clear hcame hid hem hun
  have hne := fun w => run_neq_slice_nil_any (P := Trym.prog) w 22 9 (some x) pn pc 0 0 Trym.underlying22
  obtain ⟨i0, hi, hz0, hz1, hz2⟩ := info_parts info9
  obtain ⟨D, HD⟩ : ∃ D, Hid (doors true P pn true = D) := ⟨_, (rfl : doors true P pn true = doors true P pn true)⟩
  obtain ⟨L, HL⟩ : ∃ L, Hid (D.length = L) := ⟨_, (rfl : D.length = D.length)⟩
  have hL : L = 1 + pn + 1 := by rw [← HL.out, ← HD.out, doors_len]; simp
  have hL1 : L ≤ 1 + pn + 1 := by omega
  have hL2 : 1 + pn + 1 ≤ L := by omega
  clear hL
  obtain ⟨d0, hd0, hd1⟩ : ∃ d0, Hid (D[0]? = some d0) ∧ (d0.toList == [112, 97, 115, 115, 119, 111, 114, 100]) = true := ⟨PW, by rw [← HD.out]; exact doors_pw P pn true, pw_pw⟩
  go_enter Trym.func3, Trym.ntmps3
  go_wp2_with (first | (go_at_call 5; refine H5.out.mono ?_; rintro e w' ⟨r, rfl, hr, rfl⟩) | (go_at_call 6; refine H6.out.mono ?_; rintro e w' ⟨r6, rfl, _, rfl⟩) | (at_make; have hf : Fits pn P := hr (by simpa using ‹(!r) = false›); have hpn := hf.1; have HF := hideIt hf.2; clear hf; refine wpList_make_full _ rfl _ _ 22 rfl w.heap.size 9 i0 (.string ⟨#[]⟩) 1 Trym.underlying22 hi hz0 hz1 .i64 .i64 _ _ pn rfl rfl rfl rfl (by rw [hz2]; omega) (by unfold maxLen; omega) (Nat.le_refl _) ?_; intro w1 hown hgrow; obtain ⟨w2, hrun2, hg2, hb2⟩ := copied (cap := pc) rfl hown hgrow HG.out; have HG2 := hideIt hg2; have HB2 := hideIt hb2; clear hg2 hb2 hown hgrow) | (go_at_call 7; refine (zzacc_len id em un ev true true _ pn pn P w2 D L HD.out HL.out hpn HG2.out HF.out).mono ?_; rintro e w3 ⟨g, cap, rfl, hg, hrow, hb3⟩; have HR := hideIt hrow; have HB3 := hideIt hb3; have hnil := fun w => Lib.run_eql_slice_nil (P := Trym.prog) w 22 9 (some ⟨g, 0, none⟩) L cap 0 0 Trym.underlying22; have c0 := hrow 0 d0 hd0.out; have hgw := block_lt c0; simp only at hgw; clear hrow hb3 hrun2 hne))
  · go_ret; exact ⟨rfl, Below.refl _ _⟩
  · go_ret; exact ⟨rfl, Below.refl _ _⟩
  have HSo := hideIt (row_below HR.out ((Below.refl _ _).alloc (Nat.le_refl w3.heap.size) (.cells #[.string id, .string em, .bool ev, .string un, .slice (some ⟨g, 0, none⟩) L cap] 26)))
  have HPo := hideIt (gave_below (gave_below HG2.out HB3.out) ((Below.refl _ _).alloc (Nat.le_refl w3.heap.size) (.cells #[.string id, .string em, .bool ev, .string un, .slice (some ⟨g, 0, none⟩) L cap] 26)))
  have HBo := hideIt ((HB2.out.trans (HB3.out.mono HB2.out.size)).alloc (Nat.le_trans HB2.out.size HB3.out.size) (.cells #[.string id, .string em, .bool ev, .string un, .slice (some ⟨g, 0, none⟩) L cap] 26))
  clear HR HG2 HB3 HB2 hnil c0 hgw hd0 hd1 hg H5 H6 HG hi hz0 hz1 hz2
  go_loopw [18, 20] (fun i j wr => ∃ k : Nat, k ≤ pn ∧ i = .int .i64 (1 + k : Nat) ∧ j = .int .i64 k ∧ HasRow wr g D ∧ Gave wr (some ⟨w.heap.size, 0, none⟩) pn P ∧ Below w.heap.size w wr) (fun _ j _ => pn - (intOf j).toNat)
  case atStart => exact ⟨0, Nat.zero_le _, rfl, rfl, HSo.out, HPo.out, HBo.out⟩
  case round =>
    clear HSo HPo HBo
    obtain ⟨k, hk, rfl, rfl, hrow, hgave, hbel⟩ := hrel
    have HR := hideIt hrow
    have HP := hideIt hgave
    have HB := hideIt hbel
    clear hrow hgave hbel
    by_cases hlt : k < pn
    · obtain ⟨s, hs⟩ : ∃ s, Hid (door P k = s) := ⟨_, (rfl : door P k = door P k)⟩
      have s1 : isOidc s = true := by rw [← hs.out]; exact door_oidc P k
      have s2 : (s.extract 5 s.size).toList = (P k).toList := by rw [← hs.out]; exact door_cut P k
      have s3 : 5 ≤ s.size := by rw [← hs.out, door_size]; omega
      have s4 : s.size ≤ 1048581 := by have := HF.out k hlt; rw [← hs.out, door_size]; omega
      have cd : wr.cell? ⟨g, 1 + k, none⟩ = some (.string s) := HR.out (1 + k) s (by have := doors_door true P pn true k hlt; rw [HD.out, hs.out] at this; simpa using this)
      have cp : wr.cell? ⟨w.heap.size, k, none⟩ = some (.string (P k)) := by
        obtain ⟨b, o, e, hc⟩ := HP.out (by omega)
        cases e
        have := hc k hlt
        rwa [Nat.zero_add] at this
      have hkL : (1 : Int) + (k : Int) < (L : Int) := by omega
      have hkp : (k : Int) < (pn : Int) := by omega
      go_wp2_with (first | (go_at_call 8; refine (oidc_any _ _ (by unfold maxLen; omega)).mono ?_; rintro e w' ⟨rfl, rfl⟩; rw [s1]))
      go_quiet (fail)
      go_wp2
      go_roundw
      case rel => exact ⟨k + 1, by omega, by go_num, by go_num, row_below HR.out (drawn _ _), gave_below HP.out (drawn _ _), HB.out.trans ((drawn _ _).mono HB.out.size)⟩
      case measure => simp [intOf]; omega
    · obtain rfl : k = pn := by omega
      obtain ⟨s, hs⟩ : ∃ s, Hid (PK = s) := ⟨_, (rfl : PK = PK)⟩
      have s1 : isOidc s = false := by rw [← hs.out]; exact pk_oidc
      have s2 : (s.toList == [112, 97, 115, 115, 107, 101, 121]) = true := by rw [← hs.out]; exact pk_pk
      have s4 : s.size ≤ 1048581 := by rw [← hs.out]; decide +kernel
      have cd : wr.cell? ⟨g, 1 + k, none⟩ = some (.string s) := HR.out (1 + k) s (by have := doors_pk true P k; rw [HD.out, hs.out] at this; simpa using this)
      have hkL : (1 : Int) + (k : Int) < (L : Int) := by omega
      go_wp2_with (first | (go_at_call 8; refine (oidc_any _ _ (by unfold maxLen; omega)).mono ?_; rintro e w' ⟨rfl, rfl⟩; rw [s1]))
      go_ret
      refine ⟨ret_bool ?_, HB.out⟩
      simp <;> omega

set_option maxRecDepth 100000 in
set_option maxHeartbeats 2000000 in
theorem dec_some_true_false (id em un : ByteArray) (ev : Bool) (x : Addr) (pn pc : Nat) (P : Nat → ByteArray) (w : World) (hid : id.size ≤ maxLen) (hem : em.size ≤ maxLen) (hun : un.size ≤ maxLen) (hcame : Came w (some x) pn P) :
    Calls Trym.prog 3 #[.string id, .string em, .bool ev, .string un, .bool true, .slice (some x) pn pc, .bool false] w fun e w' => e = .returned (.bool true) ∧ Below w.heap.size w w' := by
  have H5 := hideIt (bytesD id em un ev true false (some x) pn pc P w hid hem hun hcame)
  have H6 := hideIt (fits_any id em un (some x) pn pc P w hid hem hun hcame)
  have hpm : pn ≤ maxLen := hcame.2.1
  unfold maxLen at hpm
  have HG := hideIt hcame.1
  clear hcame hid hem hun
  have hne := fun w => run_neq_slice_nil_any (P := Trym.prog) w 22 9 (some x) pn pc 0 0 Trym.underlying22
  obtain ⟨i0, hi, hz0, hz1, hz2⟩ := info_parts info9
  obtain ⟨D, HD⟩ : ∃ D, Hid (doors true P pn false = D) := ⟨_, (rfl : doors true P pn false = doors true P pn false)⟩
  obtain ⟨L, HL⟩ : ∃ L, Hid (D.length = L) := ⟨_, (rfl : D.length = D.length)⟩
  have hL : L = 1 + pn + 0 := by rw [← HL.out, ← HD.out, doors_len]; simp
  have hL1 : L ≤ 1 + pn + 0 := by omega
  have hL2 : 1 + pn + 0 ≤ L := by omega
  clear hL
  obtain ⟨d0, hd0, hd1⟩ : ∃ d0, Hid (D[0]? = some d0) ∧ (d0.toList == [112, 97, 115, 115, 119, 111, 114, 100]) = true := ⟨PW, by rw [← HD.out]; exact doors_pw P pn false, pw_pw⟩
  go_enter Trym.func3, Trym.ntmps3
  go_wp2_with (first | (go_at_call 5; refine H5.out.mono ?_; rintro e w' ⟨r, rfl, hr, rfl⟩) | (go_at_call 6; refine H6.out.mono ?_; rintro e w' ⟨r6, rfl, _, rfl⟩) | (at_make; have hf : Fits pn P := hr (by simpa using ‹(!r) = false›); have hpn := hf.1; have HF := hideIt hf.2; clear hf; refine wpList_make_full _ rfl _ _ 22 rfl w.heap.size 9 i0 (.string ⟨#[]⟩) 1 Trym.underlying22 hi hz0 hz1 .i64 .i64 _ _ pn rfl rfl rfl rfl (by rw [hz2]; omega) (by unfold maxLen; omega) (Nat.le_refl _) ?_; intro w1 hown hgrow; obtain ⟨w2, hrun2, hg2, hb2⟩ := copied (cap := pc) rfl hown hgrow HG.out; have HG2 := hideIt hg2; have HB2 := hideIt hb2; clear hg2 hb2 hown hgrow) | (go_at_call 7; refine (zzacc_len id em un ev true false _ pn pn P w2 D L HD.out HL.out hpn HG2.out HF.out).mono ?_; rintro e w3 ⟨g, cap, rfl, hg, hrow, hb3⟩; have HR := hideIt hrow; have HB3 := hideIt hb3; have hnil := fun w => Lib.run_eql_slice_nil (P := Trym.prog) w 22 9 (some ⟨g, 0, none⟩) L cap 0 0 Trym.underlying22; have c0 := hrow 0 d0 hd0.out; have hgw := block_lt c0; simp only at hgw; clear hrow hb3 hrun2 hne))
  · go_ret; exact ⟨rfl, Below.refl _ _⟩
  · go_ret; exact ⟨rfl, Below.refl _ _⟩
  have HSo := hideIt (row_below HR.out ((Below.refl _ _).alloc (Nat.le_refl w3.heap.size) (.cells #[.string id, .string em, .bool ev, .string un, .slice (some ⟨g, 0, none⟩) L cap] 26)))
  have HPo := hideIt (gave_below (gave_below HG2.out HB3.out) ((Below.refl _ _).alloc (Nat.le_refl w3.heap.size) (.cells #[.string id, .string em, .bool ev, .string un, .slice (some ⟨g, 0, none⟩) L cap] 26)))
  have HBo := hideIt ((HB2.out.trans (HB3.out.mono HB2.out.size)).alloc (Nat.le_trans HB2.out.size HB3.out.size) (.cells #[.string id, .string em, .bool ev, .string un, .slice (some ⟨g, 0, none⟩) L cap] 26))
  clear HR HG2 HB3 HB2 hnil c0 hgw hd0 hd1 hg H5 H6 HG hi hz0 hz1 hz2
  go_loopw [18, 20] (fun i j wr => ∃ k : Nat, k ≤ pn ∧ i = .int .i64 (1 + k : Nat) ∧ j = .int .i64 k ∧ HasRow wr g D ∧ Gave wr (some ⟨w.heap.size, 0, none⟩) pn P ∧ Below w.heap.size w wr) (fun _ j _ => pn - (intOf j).toNat)
  case atStart => exact ⟨0, Nat.zero_le _, rfl, rfl, HSo.out, HPo.out, HBo.out⟩
  case round =>
    clear HSo HPo HBo
    obtain ⟨k, hk, rfl, rfl, hrow, hgave, hbel⟩ := hrel
    have HR := hideIt hrow
    have HP := hideIt hgave
    have HB := hideIt hbel
    clear hrow hgave hbel
    by_cases hlt : k < pn
    · obtain ⟨s, hs⟩ : ∃ s, Hid (door P k = s) := ⟨_, (rfl : door P k = door P k)⟩
      have s1 : isOidc s = true := by rw [← hs.out]; exact door_oidc P k
      have s2 : (s.extract 5 s.size).toList = (P k).toList := by rw [← hs.out]; exact door_cut P k
      have s3 : 5 ≤ s.size := by rw [← hs.out, door_size]; omega
      have s4 : s.size ≤ 1048581 := by have := HF.out k hlt; rw [← hs.out, door_size]; omega
      have cd : wr.cell? ⟨g, 1 + k, none⟩ = some (.string s) := HR.out (1 + k) s (by have := doors_door true P pn false k hlt; rw [HD.out, hs.out] at this; simpa using this)
      have cp : wr.cell? ⟨w.heap.size, k, none⟩ = some (.string (P k)) := by
        obtain ⟨b, o, e, hc⟩ := HP.out (by omega)
        cases e
        have := hc k hlt
        rwa [Nat.zero_add] at this
      have hkL : (1 : Int) + (k : Int) < (L : Int) := by omega
      have hkp : (k : Int) < (pn : Int) := by omega
      go_wp2_with (first | (go_at_call 8; refine (oidc_any _ _ (by unfold maxLen; omega)).mono ?_; rintro e w' ⟨rfl, rfl⟩; rw [s1]))
      go_quiet (fail)
      go_wp2
      go_roundw
      case rel => exact ⟨k + 1, by omega, by go_num, by go_num, row_below HR.out (drawn _ _), gave_below HP.out (drawn _ _), HB.out.trans ((drawn _ _).mono HB.out.size)⟩
      case measure => simp [intOf]; omega
    · obtain rfl : k = pn := by omega
      go_wp2
      go_ret
      refine ⟨ret_bool ?_, HB.out⟩
      simp <;> omega

set_option maxRecDepth 100000 in
set_option maxHeartbeats 2000000 in
theorem dec_some_false_true_zero (id em un : ByteArray) (ev : Bool) (x : Addr) (pn pc : Nat) (P : Nat → ByteArray) (w : World) (hid : id.size ≤ maxLen) (hem : em.size ≤ maxLen) (hun : un.size ≤ maxLen) (hcame : Came w (some x) pn P) (hz : pn ≤ 0) :
    Calls Trym.prog 3 #[.string id, .string em, .bool ev, .string un, .bool false, .slice (some x) pn pc, .bool true] w fun e w' => e = .returned (.bool true) ∧ Below w.heap.size w w' := by
  have H5 := hideIt (bytesD id em un ev false true (some x) pn pc P w hid hem hun hcame)
  have H6 := hideIt (fits_any id em un (some x) pn pc P w hid hem hun hcame)
  have hpm : pn ≤ maxLen := hcame.2.1
  unfold maxLen at hpm
  have HG := hideIt hcame.1
  clear hcame hid hem hun
  have hne := fun w => run_neq_slice_nil_any (P := Trym.prog) w 22 9 (some x) pn pc 0 0 Trym.underlying22
  obtain ⟨i0, hi, hz0, hz1, hz2⟩ := info_parts info9
  obtain ⟨D, HD⟩ : ∃ D, Hid (doors false P pn true = D) := ⟨_, (rfl : doors false P pn true = doors false P pn true)⟩
  obtain ⟨L, HL⟩ : ∃ L, Hid (D.length = L) := ⟨_, (rfl : D.length = D.length)⟩
  have hL : L = 0 + pn + 1 := by rw [← HL.out, ← HD.out, doors_len]; simp
  have hL1 : L ≤ 0 + pn + 1 := by omega
  have hL2 : 0 + pn + 1 ≤ L := by omega
  clear hL
  obtain ⟨d0, hd0, hd1⟩ : ∃ d0, Hid (D[0]? = some d0) ∧ (d0.toList == [112, 97, 115, 115, 119, 111, 114, 100]) = false := ⟨PK, by rw [← HD.out]; exact doors_pk0 P pn hz, pk_pw⟩
  go_enter Trym.func3, Trym.ntmps3
  go_wp2_with (first | (go_at_call 5; refine H5.out.mono ?_; rintro e w' ⟨r, rfl, hr, rfl⟩) | (go_at_call 6; refine H6.out.mono ?_; rintro e w' ⟨r6, rfl, _, rfl⟩) | (at_make; have hf : Fits pn P := hr (by simpa using ‹(!r) = false›); have hpn := hf.1; have HF := hideIt hf.2; clear hf; refine wpList_make_full _ rfl _ _ 22 rfl w.heap.size 9 i0 (.string ⟨#[]⟩) 1 Trym.underlying22 hi hz0 hz1 .i64 .i64 _ _ pn rfl rfl rfl rfl (by rw [hz2]; omega) (by unfold maxLen; omega) (Nat.le_refl _) ?_; intro w1 hown hgrow; obtain ⟨w2, hrun2, hg2, hb2⟩ := copied (cap := pc) rfl hown hgrow HG.out; have HG2 := hideIt hg2; have HB2 := hideIt hb2; clear hg2 hb2 hown hgrow) | (go_at_call 7; refine (zzacc_len id em un ev false true _ pn pn P w2 D L HD.out HL.out hpn HG2.out HF.out).mono ?_; rintro e w3 ⟨g, cap, rfl, hg, hrow, hb3⟩; have HR := hideIt hrow; have HB3 := hideIt hb3; have hnil := fun w => Lib.run_eql_slice_nil (P := Trym.prog) w 22 9 (some ⟨g, 0, none⟩) L cap 0 0 Trym.underlying22; have c0 := hrow 0 d0 hd0.out; have hgw := block_lt c0; simp only at hgw; clear hrow hb3 hrun2 hne))
  · go_ret; exact ⟨rfl, Below.refl _ _⟩
  · go_ret; exact ⟨rfl, Below.refl _ _⟩
  have HSo := hideIt (row_below HR.out ((Below.refl _ _).alloc (Nat.le_refl w3.heap.size) (.cells #[.string id, .string em, .bool ev, .string un, .slice (some ⟨g, 0, none⟩) L cap] 26)))
  have HPo := hideIt (gave_below (gave_below HG2.out HB3.out) ((Below.refl _ _).alloc (Nat.le_refl w3.heap.size) (.cells #[.string id, .string em, .bool ev, .string un, .slice (some ⟨g, 0, none⟩) L cap] 26)))
  have HBo := hideIt ((HB2.out.trans (HB3.out.mono HB2.out.size)).alloc (Nat.le_trans HB2.out.size HB3.out.size) (.cells #[.string id, .string em, .bool ev, .string un, .slice (some ⟨g, 0, none⟩) L cap] 26))
  clear HR HG2 HB3 HB2 hnil c0 hgw hd0 hd1 hg H5 H6 HG hi hz0 hz1 hz2
  go_loopw [18, 20] (fun i j wr => ∃ k : Nat, k ≤ pn ∧ i = .int .i64 (0 + k : Nat) ∧ j = .int .i64 k ∧ HasRow wr g D ∧ Gave wr (some ⟨w.heap.size, 0, none⟩) pn P ∧ Below w.heap.size w wr) (fun _ j _ => pn - (intOf j).toNat)
  case atStart => exact ⟨0, Nat.zero_le _, rfl, rfl, HSo.out, HPo.out, HBo.out⟩
  case round =>
    clear HSo HPo HBo
    obtain ⟨k, hk, rfl, rfl, hrow, hgave, hbel⟩ := hrel
    have HR := hideIt hrow
    have HP := hideIt hgave
    have HB := hideIt hbel
    clear hrow hgave hbel
    obtain rfl : k = 0 := by omega
    obtain rfl : pn = 0 := by omega
    obtain ⟨s, hs⟩ : ∃ s, Hid (PK = s) := ⟨_, (rfl : PK = PK)⟩
    have s1 : isOidc s = false := by rw [← hs.out]; exact pk_oidc
    have s2 : (s.toList == [112, 97, 115, 115, 107, 101, 121]) = true := by rw [← hs.out]; exact pk_pk
    have s4 : s.size ≤ 1048581 := by rw [← hs.out]; decide +kernel
    have cd : wr.cell? ⟨g, 0, none⟩ = some (.string s) := HR.out (0) s (by have := doors_pk false P 0; rw [HD.out, hs.out] at this; simpa using this)
    have hkL : (0 : Int) < (L : Int) := by omega
    go_wp2_with (first | (go_at_call 8; refine (oidc_any _ _ (by unfold maxLen; omega)).mono ?_; rintro e w' ⟨rfl, rfl⟩; rw [s1]))
    go_ret
    refine ⟨ret_bool ?_, HB.out⟩
    simp <;> omega

set_option maxRecDepth 100000 in
set_option maxHeartbeats 2000000 in
theorem dec_some_false_true_pos (id em un : ByteArray) (ev : Bool) (x : Addr) (pn pc : Nat) (P : Nat → ByteArray) (w : World) (hid : id.size ≤ maxLen) (hem : em.size ≤ maxLen) (hun : un.size ≤ maxLen) (hcame : Came w (some x) pn P) (hz : 0 < pn) :
    Calls Trym.prog 3 #[.string id, .string em, .bool ev, .string un, .bool false, .slice (some x) pn pc, .bool true] w fun e w' => e = .returned (.bool true) ∧ Below w.heap.size w w' := by
  have H5 := hideIt (bytesD id em un ev false true (some x) pn pc P w hid hem hun hcame)
  have H6 := hideIt (fits_any id em un (some x) pn pc P w hid hem hun hcame)
  have hpm : pn ≤ maxLen := hcame.2.1
  unfold maxLen at hpm
  have HG := hideIt hcame.1
  clear hcame hid hem hun
  have hne := fun w => run_neq_slice_nil_any (P := Trym.prog) w 22 9 (some x) pn pc 0 0 Trym.underlying22
  obtain ⟨i0, hi, hz0, hz1, hz2⟩ := info_parts info9
  obtain ⟨D, HD⟩ : ∃ D, Hid (doors false P pn true = D) := ⟨_, (rfl : doors false P pn true = doors false P pn true)⟩
  obtain ⟨L, HL⟩ : ∃ L, Hid (D.length = L) := ⟨_, (rfl : D.length = D.length)⟩
  have hL : L = 0 + pn + 1 := by rw [← HL.out, ← HD.out, doors_len]; simp
  have hL1 : L ≤ 0 + pn + 1 := by omega
  have hL2 : 0 + pn + 1 ≤ L := by omega
  clear hL
  obtain ⟨d0, hd0, hd1⟩ : ∃ d0, Hid (D[0]? = some d0) ∧ (d0.toList == [112, 97, 115, 115, 119, 111, 114, 100]) = false := ⟨door P 0, by rw [← HD.out]; exact doors_door false P pn true 0 hz, door_pw P 0⟩
  go_enter Trym.func3, Trym.ntmps3
  go_wp2_with (first | (go_at_call 5; refine H5.out.mono ?_; rintro e w' ⟨r, rfl, hr, rfl⟩) | (go_at_call 6; refine H6.out.mono ?_; rintro e w' ⟨r6, rfl, _, rfl⟩) | (at_make; have hf : Fits pn P := hr (by simpa using ‹(!r) = false›); have hpn := hf.1; have HF := hideIt hf.2; clear hf; refine wpList_make_full _ rfl _ _ 22 rfl w.heap.size 9 i0 (.string ⟨#[]⟩) 1 Trym.underlying22 hi hz0 hz1 .i64 .i64 _ _ pn rfl rfl rfl rfl (by rw [hz2]; omega) (by unfold maxLen; omega) (Nat.le_refl _) ?_; intro w1 hown hgrow; obtain ⟨w2, hrun2, hg2, hb2⟩ := copied (cap := pc) rfl hown hgrow HG.out; have HG2 := hideIt hg2; have HB2 := hideIt hb2; clear hg2 hb2 hown hgrow) | (go_at_call 7; refine (zzacc_len id em un ev false true _ pn pn P w2 D L HD.out HL.out hpn HG2.out HF.out).mono ?_; rintro e w3 ⟨g, cap, rfl, hg, hrow, hb3⟩; have HR := hideIt hrow; have HB3 := hideIt hb3; have hnil := fun w => Lib.run_eql_slice_nil (P := Trym.prog) w 22 9 (some ⟨g, 0, none⟩) L cap 0 0 Trym.underlying22; have c0 := hrow 0 d0 hd0.out; have hgw := block_lt c0; simp only at hgw; clear hrow hb3 hrun2 hne))
  · go_ret; exact ⟨rfl, Below.refl _ _⟩
  · go_ret; exact ⟨rfl, Below.refl _ _⟩
  have HSo := hideIt (row_below HR.out ((Below.refl _ _).alloc (Nat.le_refl w3.heap.size) (.cells #[.string id, .string em, .bool ev, .string un, .slice (some ⟨g, 0, none⟩) L cap] 26)))
  have HPo := hideIt (gave_below (gave_below HG2.out HB3.out) ((Below.refl _ _).alloc (Nat.le_refl w3.heap.size) (.cells #[.string id, .string em, .bool ev, .string un, .slice (some ⟨g, 0, none⟩) L cap] 26)))
  have HBo := hideIt ((HB2.out.trans (HB3.out.mono HB2.out.size)).alloc (Nat.le_trans HB2.out.size HB3.out.size) (.cells #[.string id, .string em, .bool ev, .string un, .slice (some ⟨g, 0, none⟩) L cap] 26))
  clear HR HG2 HB3 HB2 hnil c0 hgw hd0 hd1 hg H5 H6 HG hi hz0 hz1 hz2
  go_loopw [18, 20] (fun i j wr => ∃ k : Nat, k ≤ pn ∧ i = .int .i64 (0 + k : Nat) ∧ j = .int .i64 k ∧ HasRow wr g D ∧ Gave wr (some ⟨w.heap.size, 0, none⟩) pn P ∧ Below w.heap.size w wr) (fun _ j _ => pn - (intOf j).toNat)
  case atStart => exact ⟨0, Nat.zero_le _, rfl, rfl, HSo.out, HPo.out, HBo.out⟩
  case round =>
    clear HSo HPo HBo
    obtain ⟨k, hk, rfl, rfl, hrow, hgave, hbel⟩ := hrel
    have HR := hideIt hrow
    have HP := hideIt hgave
    have HB := hideIt hbel
    clear hrow hgave hbel
    by_cases hlt : k < pn
    · obtain ⟨s, hs⟩ : ∃ s, Hid (door P k = s) := ⟨_, (rfl : door P k = door P k)⟩
      have s1 : isOidc s = true := by rw [← hs.out]; exact door_oidc P k
      have s2 : (s.extract 5 s.size).toList = (P k).toList := by rw [← hs.out]; exact door_cut P k
      have s3 : 5 ≤ s.size := by rw [← hs.out, door_size]; omega
      have s4 : s.size ≤ 1048581 := by have := HF.out k hlt; rw [← hs.out, door_size]; omega
      have cd : wr.cell? ⟨g, k, none⟩ = some (.string s) := HR.out (k) s (by have := doors_door false P pn true k hlt; rw [HD.out, hs.out] at this; simpa using this)
      have cp : wr.cell? ⟨w.heap.size, k, none⟩ = some (.string (P k)) := by
        obtain ⟨b, o, e, hc⟩ := HP.out (by omega)
        cases e
        have := hc k hlt
        rwa [Nat.zero_add] at this
      have hkL : (k : Int) < (L : Int) := by omega
      have hkp : (k : Int) < (pn : Int) := by omega
      go_wp2_with (first | (go_at_call 8; refine (oidc_any _ _ (by unfold maxLen; omega)).mono ?_; rintro e w' ⟨rfl, rfl⟩; rw [s1]))
      go_quiet (fail)
      go_wp2
      go_roundw
      case rel => exact ⟨k + 1, by omega, by go_num, by go_num, row_below HR.out (drawn _ _), gave_below HP.out (drawn _ _), HB.out.trans ((drawn _ _).mono HB.out.size)⟩
      case measure => simp [intOf]; omega
    · obtain rfl : k = pn := by omega
      obtain ⟨s, hs⟩ : ∃ s, Hid (PK = s) := ⟨_, (rfl : PK = PK)⟩
      have s1 : isOidc s = false := by rw [← hs.out]; exact pk_oidc
      have s2 : (s.toList == [112, 97, 115, 115, 107, 101, 121]) = true := by rw [← hs.out]; exact pk_pk
      have s4 : s.size ≤ 1048581 := by rw [← hs.out]; decide +kernel
      have cd : wr.cell? ⟨g, k, none⟩ = some (.string s) := HR.out (k) s (by have := doors_pk false P k; rw [HD.out, hs.out] at this; simpa using this)
      have hkL : (k : Int) < (L : Int) := by omega
      go_wp2_with (first | (go_at_call 8; refine (oidc_any _ _ (by unfold maxLen; omega)).mono ?_; rintro e w' ⟨rfl, rfl⟩; rw [s1]))
      go_ret
      refine ⟨ret_bool ?_, HB.out⟩
      simp <;> omega

set_option maxRecDepth 100000 in
set_option maxHeartbeats 2000000 in
theorem dec_some_false_false_zero (id em un : ByteArray) (ev : Bool) (x : Addr) (pn pc : Nat) (P : Nat → ByteArray) (w : World) (hid : id.size ≤ maxLen) (hem : em.size ≤ maxLen) (hun : un.size ≤ maxLen) (hcame : Came w (some x) pn P) (hz : pn ≤ 0) :
    Calls Trym.prog 3 #[.string id, .string em, .bool ev, .string un, .bool false, .slice (some x) pn pc, .bool false] w fun e w' => e = .returned (.bool true) ∧ Below w.heap.size w w' := by
  have H5 := hideIt (bytesD id em un ev false false (some x) pn pc P w hid hem hun hcame)
  have H6 := hideIt (fits_any id em un (some x) pn pc P w hid hem hun hcame)
  have hpm : pn ≤ maxLen := hcame.2.1
  unfold maxLen at hpm
  have HG := hideIt hcame.1
  clear hcame hid hem hun
  have hne := fun w => run_neq_slice_nil_any (P := Trym.prog) w 22 9 (some x) pn pc 0 0 Trym.underlying22
  obtain ⟨i0, hi, hz0, hz1, hz2⟩ := info_parts info9
  obtain ⟨D, HD⟩ : ∃ D, Hid (doors false P pn false = D) := ⟨_, (rfl : doors false P pn false = doors false P pn false)⟩
  obtain ⟨L, HL⟩ : ∃ L, Hid (D.length = L) := ⟨_, (rfl : D.length = D.length)⟩
  have hL : L = 0 + pn + 0 := by rw [← HL.out, ← HD.out, doors_len]; simp
  have hL1 : L ≤ 0 + pn + 0 := by omega
  have hL2 : 0 + pn + 0 ≤ L := by omega
  clear hL
  go_enter Trym.func3, Trym.ntmps3
  go_wp2_with (first | (go_at_call 5; refine H5.out.mono ?_; rintro e w' ⟨r, rfl, hr, rfl⟩) | (go_at_call 6; refine H6.out.mono ?_; rintro e w' ⟨r6, rfl, _, rfl⟩) | (at_make; have hf : Fits pn P := hr (by simpa using ‹(!r) = false›); have hpn := hf.1; have HF := hideIt hf.2; clear hf; refine wpList_make_full _ rfl _ _ 22 rfl w.heap.size 9 i0 (.string ⟨#[]⟩) 1 Trym.underlying22 hi hz0 hz1 .i64 .i64 _ _ pn rfl rfl rfl rfl (by rw [hz2]; omega) (by unfold maxLen; omega) (Nat.le_refl _) ?_; intro w1 hown hgrow; obtain ⟨w2, hrun2, hg2, hb2⟩ := copied (cap := pc) rfl hown hgrow HG.out; have HG2 := hideIt hg2; have HB2 := hideIt hb2; clear hg2 hb2 hown hgrow) | (go_at_call 7; refine (zzacc_len id em un ev false false _ pn pn P w2 D L HD.out HL.out hpn HG2.out HF.out).mono ?_; rintro e w3 ⟨g, cap, rfl, hg, hrow, hb3⟩; have HR := hideIt hrow; have HB3 := hideIt hb3; have hnil := fun w => Lib.run_eql_slice_nil (P := Trym.prog) w 22 9 (some ⟨g, 0, none⟩) L cap 0 0 Trym.underlying22; clear hrow hb3 hrun2 hne))
  · go_ret; exact ⟨rfl, Below.refl _ _⟩
  · go_ret; exact ⟨rfl, Below.refl _ _⟩
  have HSo := hideIt (row_below HR.out ((Below.refl _ _).alloc (Nat.le_refl w3.heap.size) (.cells #[.string id, .string em, .bool ev, .string un, .slice (some ⟨g, 0, none⟩) L cap] 26)))
  have HPo := hideIt (gave_below (gave_below HG2.out HB3.out) ((Below.refl _ _).alloc (Nat.le_refl w3.heap.size) (.cells #[.string id, .string em, .bool ev, .string un, .slice (some ⟨g, 0, none⟩) L cap] 26)))
  have HBo := hideIt ((HB2.out.trans (HB3.out.mono HB2.out.size)).alloc (Nat.le_trans HB2.out.size HB3.out.size) (.cells #[.string id, .string em, .bool ev, .string un, .slice (some ⟨g, 0, none⟩) L cap] 26))
  clear HR HG2 HB3 HB2 hnil hg H5 H6 HG hi hz0 hz1 hz2
  go_loopw [18, 20] (fun i j wr => ∃ k : Nat, k ≤ pn ∧ i = .int .i64 (0 + k : Nat) ∧ j = .int .i64 k ∧ HasRow wr g D ∧ Gave wr (some ⟨w.heap.size, 0, none⟩) pn P ∧ Below w.heap.size w wr) (fun _ j _ => pn - (intOf j).toNat)
  case atStart => exact ⟨0, Nat.zero_le _, rfl, rfl, HSo.out, HPo.out, HBo.out⟩
  case round =>
    clear HSo HPo HBo
    obtain ⟨k, hk, rfl, rfl, hrow, hgave, hbel⟩ := hrel
    have HR := hideIt hrow
    have HP := hideIt hgave
    have HB := hideIt hbel
    clear hrow hgave hbel
    obtain rfl : k = 0 := by omega
    obtain rfl : pn = 0 := by omega
    go_wp2
    go_ret
    refine ⟨ret_bool ?_, HB.out⟩
    simp <;> omega

set_option maxRecDepth 100000 in
set_option maxHeartbeats 2000000 in
theorem dec_some_false_false_pos (id em un : ByteArray) (ev : Bool) (x : Addr) (pn pc : Nat) (P : Nat → ByteArray) (w : World) (hid : id.size ≤ maxLen) (hem : em.size ≤ maxLen) (hun : un.size ≤ maxLen) (hcame : Came w (some x) pn P) (hz : 0 < pn) :
    Calls Trym.prog 3 #[.string id, .string em, .bool ev, .string un, .bool false, .slice (some x) pn pc, .bool false] w fun e w' => e = .returned (.bool true) ∧ Below w.heap.size w w' := by
  have H5 := hideIt (bytesD id em un ev false false (some x) pn pc P w hid hem hun hcame)
  have H6 := hideIt (fits_any id em un (some x) pn pc P w hid hem hun hcame)
  have hpm : pn ≤ maxLen := hcame.2.1
  unfold maxLen at hpm
  have HG := hideIt hcame.1
  clear hcame hid hem hun
  have hne := fun w => run_neq_slice_nil_any (P := Trym.prog) w 22 9 (some x) pn pc 0 0 Trym.underlying22
  obtain ⟨i0, hi, hz0, hz1, hz2⟩ := info_parts info9
  obtain ⟨D, HD⟩ : ∃ D, Hid (doors false P pn false = D) := ⟨_, (rfl : doors false P pn false = doors false P pn false)⟩
  obtain ⟨L, HL⟩ : ∃ L, Hid (D.length = L) := ⟨_, (rfl : D.length = D.length)⟩
  have hL : L = 0 + pn + 0 := by rw [← HL.out, ← HD.out, doors_len]; simp
  have hL1 : L ≤ 0 + pn + 0 := by omega
  have hL2 : 0 + pn + 0 ≤ L := by omega
  clear hL
  obtain ⟨d0, hd0, hd1⟩ : ∃ d0, Hid (D[0]? = some d0) ∧ (d0.toList == [112, 97, 115, 115, 119, 111, 114, 100]) = false := ⟨door P 0, by rw [← HD.out]; exact doors_door false P pn false 0 hz, door_pw P 0⟩
  go_enter Trym.func3, Trym.ntmps3
  go_wp2_with (first | (go_at_call 5; refine H5.out.mono ?_; rintro e w' ⟨r, rfl, hr, rfl⟩) | (go_at_call 6; refine H6.out.mono ?_; rintro e w' ⟨r6, rfl, _, rfl⟩) | (at_make; have hf : Fits pn P := hr (by simpa using ‹(!r) = false›); have hpn := hf.1; have HF := hideIt hf.2; clear hf; refine wpList_make_full _ rfl _ _ 22 rfl w.heap.size 9 i0 (.string ⟨#[]⟩) 1 Trym.underlying22 hi hz0 hz1 .i64 .i64 _ _ pn rfl rfl rfl rfl (by rw [hz2]; omega) (by unfold maxLen; omega) (Nat.le_refl _) ?_; intro w1 hown hgrow; obtain ⟨w2, hrun2, hg2, hb2⟩ := copied (cap := pc) rfl hown hgrow HG.out; have HG2 := hideIt hg2; have HB2 := hideIt hb2; clear hg2 hb2 hown hgrow) | (go_at_call 7; refine (zzacc_len id em un ev false false _ pn pn P w2 D L HD.out HL.out hpn HG2.out HF.out).mono ?_; rintro e w3 ⟨g, cap, rfl, hg, hrow, hb3⟩; have HR := hideIt hrow; have HB3 := hideIt hb3; have hnil := fun w => Lib.run_eql_slice_nil (P := Trym.prog) w 22 9 (some ⟨g, 0, none⟩) L cap 0 0 Trym.underlying22; have c0 := hrow 0 d0 hd0.out; have hgw := block_lt c0; simp only at hgw; clear hrow hb3 hrun2 hne))
  · go_ret; exact ⟨rfl, Below.refl _ _⟩
  · go_ret; exact ⟨rfl, Below.refl _ _⟩
  have HSo := hideIt (row_below HR.out ((Below.refl _ _).alloc (Nat.le_refl w3.heap.size) (.cells #[.string id, .string em, .bool ev, .string un, .slice (some ⟨g, 0, none⟩) L cap] 26)))
  have HPo := hideIt (gave_below (gave_below HG2.out HB3.out) ((Below.refl _ _).alloc (Nat.le_refl w3.heap.size) (.cells #[.string id, .string em, .bool ev, .string un, .slice (some ⟨g, 0, none⟩) L cap] 26)))
  have HBo := hideIt ((HB2.out.trans (HB3.out.mono HB2.out.size)).alloc (Nat.le_trans HB2.out.size HB3.out.size) (.cells #[.string id, .string em, .bool ev, .string un, .slice (some ⟨g, 0, none⟩) L cap] 26))
  clear HR HG2 HB3 HB2 hnil c0 hgw hd0 hd1 hg H5 H6 HG hi hz0 hz1 hz2
  go_loopw [18, 20] (fun i j wr => ∃ k : Nat, k ≤ pn ∧ i = .int .i64 (0 + k : Nat) ∧ j = .int .i64 k ∧ HasRow wr g D ∧ Gave wr (some ⟨w.heap.size, 0, none⟩) pn P ∧ Below w.heap.size w wr) (fun _ j _ => pn - (intOf j).toNat)
  case atStart => exact ⟨0, Nat.zero_le _, rfl, rfl, HSo.out, HPo.out, HBo.out⟩
  case round =>
    clear HSo HPo HBo
    obtain ⟨k, hk, rfl, rfl, hrow, hgave, hbel⟩ := hrel
    have HR := hideIt hrow
    have HP := hideIt hgave
    have HB := hideIt hbel
    clear hrow hgave hbel
    by_cases hlt : k < pn
    · obtain ⟨s, hs⟩ : ∃ s, Hid (door P k = s) := ⟨_, (rfl : door P k = door P k)⟩
      have s1 : isOidc s = true := by rw [← hs.out]; exact door_oidc P k
      have s2 : (s.extract 5 s.size).toList = (P k).toList := by rw [← hs.out]; exact door_cut P k
      have s3 : 5 ≤ s.size := by rw [← hs.out, door_size]; omega
      have s4 : s.size ≤ 1048581 := by have := HF.out k hlt; rw [← hs.out, door_size]; omega
      have cd : wr.cell? ⟨g, k, none⟩ = some (.string s) := HR.out (k) s (by have := doors_door false P pn false k hlt; rw [HD.out, hs.out] at this; simpa using this)
      have cp : wr.cell? ⟨w.heap.size, k, none⟩ = some (.string (P k)) := by
        obtain ⟨b, o, e, hc⟩ := HP.out (by omega)
        cases e
        have := hc k hlt
        rwa [Nat.zero_add] at this
      have hkL : (k : Int) < (L : Int) := by omega
      have hkp : (k : Int) < (pn : Int) := by omega
      go_wp2_with (first | (go_at_call 8; refine (oidc_any _ _ (by unfold maxLen; omega)).mono ?_; rintro e w' ⟨rfl, rfl⟩; rw [s1]))
      go_quiet (fail)
      go_wp2
      go_roundw
      case rel => exact ⟨k + 1, by omega, by go_num, by go_num, row_below HR.out (drawn _ _), gave_below HP.out (drawn _ _), HB.out.trans ((drawn _ _).mono HB.out.size)⟩
      case measure => simp [intOf]; omega
    · obtain rfl : k = pn := by omega
      go_wp2
      go_ret
      refine ⟨ret_bool ?_, HB.out⟩
      simp <;> omega

set_option maxRecDepth 100000 in
set_option maxHeartbeats 2000000 in
theorem dec_none_true_true (id em un : ByteArray) (ev : Bool) (P : Nat → ByteArray) (w : World) (hid : id.size ≤ maxLen) (hem : em.size ≤ maxLen) (hun : un.size ≤ maxLen) (hcame : Came w none 0 P) :
    Calls Trym.prog 3 #[.string id, .string em, .bool ev, .string un, .bool true, .slice none 0 0, .bool true] w fun e w' => e = .returned (.bool true) ∧ Below w.heap.size w w' := by
  have H5 := hideIt (bytesD id em un ev true true none 0 0 P w hid hem hun hcame)
  have H6 := hideIt (fits_any id em un none 0 0 P w hid hem hun hcame)
  have hpm : 0 ≤ maxLen := hcame.2.1
  unfold maxLen at hpm
  have HG := hideIt hcame.1
  clear hcame hid hem hun
  have hne := fun w => run_neq_slice_nil_any (P := Trym.prog) w 22 9 none 0 0 0 0 Trym.underlying22
  obtain ⟨i0, hi, hz0, hz1, hz2⟩ := info_parts info9
  obtain ⟨D, HD⟩ : ∃ D, Hid (doors true P 0 true = D) := ⟨_, (rfl : doors true P 0 true = doors true P 0 true)⟩
  obtain ⟨L, HL⟩ : ∃ L, Hid (D.length = L) := ⟨_, (rfl : D.length = D.length)⟩
  have hL : L = 1 + 0 + 1 := by rw [← HL.out, ← HD.out, doors_len]; simp
  have hL1 : L ≤ 1 + 0 + 1 := by omega
  have hL2 : 1 + 0 + 1 ≤ L := by omega
  clear hL
  obtain ⟨d0, hd0, hd1⟩ : ∃ d0, Hid (D[0]? = some d0) ∧ (d0.toList == [112, 97, 115, 115, 119, 111, 114, 100]) = true := ⟨PW, by rw [← HD.out]; exact doors_pw P 0 true, pw_pw⟩
  go_enter Trym.func3, Trym.ntmps3
  go_wp2_with (first | (go_at_call 5; refine H5.out.mono ?_; rintro e w' ⟨r, rfl, hr, rfl⟩) | (go_at_call 6; refine H6.out.mono ?_; rintro e w' ⟨r6, rfl, _, rfl⟩) | (go_at_call 7; have hf : Fits 0 P := hr (by simpa using ‹(!r) = false›); have hpn := hf.1; have HF := hideIt hf.2; clear hf; have HG2 := HG; have HB2 := hideIt (Below.refl w.heap.size w); refine (zzacc_len id em un ev true true _ 0 0 P w D L HD.out HL.out hpn HG2.out HF.out).mono ?_; rintro e w3 ⟨g, cap, rfl, hg, hrow, hb3⟩; have HR := hideIt hrow; have HB3 := hideIt hb3; have hnil := fun w => Lib.run_eql_slice_nil (P := Trym.prog) w 22 9 (some ⟨g, 0, none⟩) L cap 0 0 Trym.underlying22; have c0 := hrow 0 d0 hd0.out; have hgw := block_lt c0; simp only at hgw; clear hrow hb3 hne))
  · go_ret; exact ⟨rfl, Below.refl _ _⟩
  · go_ret; exact ⟨rfl, Below.refl _ _⟩
  have HSo := hideIt (row_below HR.out ((Below.refl _ _).alloc (Nat.le_refl w3.heap.size) (.cells #[.string id, .string em, .bool ev, .string un, .slice (some ⟨g, 0, none⟩) L cap] 26)))
  have HPo := hideIt (gave_below (gave_below HG2.out HB3.out) ((Below.refl _ _).alloc (Nat.le_refl w3.heap.size) (.cells #[.string id, .string em, .bool ev, .string un, .slice (some ⟨g, 0, none⟩) L cap] 26)))
  have HBo := hideIt ((HB2.out.trans (HB3.out.mono HB2.out.size)).alloc (Nat.le_trans HB2.out.size HB3.out.size) (.cells #[.string id, .string em, .bool ev, .string un, .slice (some ⟨g, 0, none⟩) L cap] 26))
  clear HR HG2 HB3 HB2 hnil c0 hgw hd0 hd1 hg H5 H6 HG hi hz0 hz1 hz2
  go_loopw [18, 20] (fun i j wr => ∃ k : Nat, k ≤ 0 ∧ i = .int .i64 (1 + k : Nat) ∧ j = .int .i64 k ∧ HasRow wr g D ∧ Gave wr none 0 P ∧ Below w.heap.size w wr) (fun _ j _ => 0 - (intOf j).toNat)
  case atStart => exact ⟨0, Nat.zero_le _, rfl, rfl, HSo.out, HPo.out, HBo.out⟩
  case round =>
    clear HSo HPo HBo
    obtain ⟨k, hk, rfl, rfl, hrow, hgave, hbel⟩ := hrel
    have HR := hideIt hrow
    have HP := hideIt hgave
    have HB := hideIt hbel
    clear hrow hgave hbel
    obtain rfl : k = 0 := by omega
    obtain ⟨s, hs⟩ : ∃ s, Hid (PK = s) := ⟨_, (rfl : PK = PK)⟩
    have s1 : isOidc s = false := by rw [← hs.out]; exact pk_oidc
    have s2 : (s.toList == [112, 97, 115, 115, 107, 101, 121]) = true := by rw [← hs.out]; exact pk_pk
    have s4 : s.size ≤ 1048581 := by rw [← hs.out]; decide +kernel
    have cd : wr.cell? ⟨g, 1, none⟩ = some (.string s) := HR.out (1) s (by have := doors_pk true P 0; rw [HD.out, hs.out] at this; simpa using this)
    have hkL : (1 : Int) + (0 : Int) < (L : Int) := by omega
    go_wp2_with (first | (go_at_call 8; refine (oidc_any _ _ (by unfold maxLen; omega)).mono ?_; rintro e w' ⟨rfl, rfl⟩; rw [s1]))
    go_ret
    refine ⟨ret_bool ?_, HB.out⟩
    simp <;> omega

set_option maxRecDepth 100000 in
set_option maxHeartbeats 2000000 in
theorem dec_none_true_false (id em un : ByteArray) (ev : Bool) (P : Nat → ByteArray) (w : World) (hid : id.size ≤ maxLen) (hem : em.size ≤ maxLen) (hun : un.size ≤ maxLen) (hcame : Came w none 0 P) :
    Calls Trym.prog 3 #[.string id, .string em, .bool ev, .string un, .bool true, .slice none 0 0, .bool false] w fun e w' => e = .returned (.bool true) ∧ Below w.heap.size w w' := by
  have H5 := hideIt (bytesD id em un ev true false none 0 0 P w hid hem hun hcame)
  have H6 := hideIt (fits_any id em un none 0 0 P w hid hem hun hcame)
  have hpm : 0 ≤ maxLen := hcame.2.1
  unfold maxLen at hpm
  have HG := hideIt hcame.1
  clear hcame hid hem hun
  have hne := fun w => run_neq_slice_nil_any (P := Trym.prog) w 22 9 none 0 0 0 0 Trym.underlying22
  obtain ⟨i0, hi, hz0, hz1, hz2⟩ := info_parts info9
  obtain ⟨D, HD⟩ : ∃ D, Hid (doors true P 0 false = D) := ⟨_, (rfl : doors true P 0 false = doors true P 0 false)⟩
  obtain ⟨L, HL⟩ : ∃ L, Hid (D.length = L) := ⟨_, (rfl : D.length = D.length)⟩
  have hL : L = 1 + 0 + 0 := by rw [← HL.out, ← HD.out, doors_len]; simp
  have hL1 : L ≤ 1 + 0 + 0 := by omega
  have hL2 : 1 + 0 + 0 ≤ L := by omega
  clear hL
  obtain ⟨d0, hd0, hd1⟩ : ∃ d0, Hid (D[0]? = some d0) ∧ (d0.toList == [112, 97, 115, 115, 119, 111, 114, 100]) = true := ⟨PW, by rw [← HD.out]; exact doors_pw P 0 false, pw_pw⟩
  go_enter Trym.func3, Trym.ntmps3
  go_wp2_with (first | (go_at_call 5; refine H5.out.mono ?_; rintro e w' ⟨r, rfl, hr, rfl⟩) | (go_at_call 6; refine H6.out.mono ?_; rintro e w' ⟨r6, rfl, _, rfl⟩) | (go_at_call 7; have hf : Fits 0 P := hr (by simpa using ‹(!r) = false›); have hpn := hf.1; have HF := hideIt hf.2; clear hf; have HG2 := HG; have HB2 := hideIt (Below.refl w.heap.size w); refine (zzacc_len id em un ev true false _ 0 0 P w D L HD.out HL.out hpn HG2.out HF.out).mono ?_; rintro e w3 ⟨g, cap, rfl, hg, hrow, hb3⟩; have HR := hideIt hrow; have HB3 := hideIt hb3; have hnil := fun w => Lib.run_eql_slice_nil (P := Trym.prog) w 22 9 (some ⟨g, 0, none⟩) L cap 0 0 Trym.underlying22; have c0 := hrow 0 d0 hd0.out; have hgw := block_lt c0; simp only at hgw; clear hrow hb3 hne))
  · go_ret; exact ⟨rfl, Below.refl _ _⟩
  · go_ret; exact ⟨rfl, Below.refl _ _⟩
  have HSo := hideIt (row_below HR.out ((Below.refl _ _).alloc (Nat.le_refl w3.heap.size) (.cells #[.string id, .string em, .bool ev, .string un, .slice (some ⟨g, 0, none⟩) L cap] 26)))
  have HPo := hideIt (gave_below (gave_below HG2.out HB3.out) ((Below.refl _ _).alloc (Nat.le_refl w3.heap.size) (.cells #[.string id, .string em, .bool ev, .string un, .slice (some ⟨g, 0, none⟩) L cap] 26)))
  have HBo := hideIt ((HB2.out.trans (HB3.out.mono HB2.out.size)).alloc (Nat.le_trans HB2.out.size HB3.out.size) (.cells #[.string id, .string em, .bool ev, .string un, .slice (some ⟨g, 0, none⟩) L cap] 26))
  clear HR HG2 HB3 HB2 hnil c0 hgw hd0 hd1 hg H5 H6 HG hi hz0 hz1 hz2
  go_loopw [18, 20] (fun i j wr => ∃ k : Nat, k ≤ 0 ∧ i = .int .i64 (1 + k : Nat) ∧ j = .int .i64 k ∧ HasRow wr g D ∧ Gave wr none 0 P ∧ Below w.heap.size w wr) (fun _ j _ => 0 - (intOf j).toNat)
  case atStart => exact ⟨0, Nat.zero_le _, rfl, rfl, HSo.out, HPo.out, HBo.out⟩
  case round =>
    clear HSo HPo HBo
    obtain ⟨k, hk, rfl, rfl, hrow, hgave, hbel⟩ := hrel
    have HR := hideIt hrow
    have HP := hideIt hgave
    have HB := hideIt hbel
    clear hrow hgave hbel
    obtain rfl : k = 0 := by omega
    go_wp2
    go_ret
    refine ⟨ret_bool ?_, HB.out⟩
    simp <;> omega

set_option maxRecDepth 100000 in
set_option maxHeartbeats 2000000 in
theorem dec_none_false_true (id em un : ByteArray) (ev : Bool) (P : Nat → ByteArray) (w : World) (hid : id.size ≤ maxLen) (hem : em.size ≤ maxLen) (hun : un.size ≤ maxLen) (hcame : Came w none 0 P) :
    Calls Trym.prog 3 #[.string id, .string em, .bool ev, .string un, .bool false, .slice none 0 0, .bool true] w fun e w' => e = .returned (.bool true) ∧ Below w.heap.size w w' := by
  have H5 := hideIt (bytesD id em un ev false true none 0 0 P w hid hem hun hcame)
  have H6 := hideIt (fits_any id em un none 0 0 P w hid hem hun hcame)
  have hpm : 0 ≤ maxLen := hcame.2.1
  unfold maxLen at hpm
  have HG := hideIt hcame.1
  clear hcame hid hem hun
  have hne := fun w => run_neq_slice_nil_any (P := Trym.prog) w 22 9 none 0 0 0 0 Trym.underlying22
  obtain ⟨i0, hi, hz0, hz1, hz2⟩ := info_parts info9
  obtain ⟨D, HD⟩ : ∃ D, Hid (doors false P 0 true = D) := ⟨_, (rfl : doors false P 0 true = doors false P 0 true)⟩
  obtain ⟨L, HL⟩ : ∃ L, Hid (D.length = L) := ⟨_, (rfl : D.length = D.length)⟩
  have hL : L = 0 + 0 + 1 := by rw [← HL.out, ← HD.out, doors_len]; simp
  have hL1 : L ≤ 0 + 0 + 1 := by omega
  have hL2 : 0 + 0 + 1 ≤ L := by omega
  clear hL
  obtain ⟨d0, hd0, hd1⟩ : ∃ d0, Hid (D[0]? = some d0) ∧ (d0.toList == [112, 97, 115, 115, 119, 111, 114, 100]) = false := ⟨PK, by rw [← HD.out]; exact doors_pk false P 0, pk_pw⟩
  go_enter Trym.func3, Trym.ntmps3
  go_wp2_with (first | (go_at_call 5; refine H5.out.mono ?_; rintro e w' ⟨r, rfl, hr, rfl⟩) | (go_at_call 6; refine H6.out.mono ?_; rintro e w' ⟨r6, rfl, _, rfl⟩) | (go_at_call 7; have hf : Fits 0 P := hr (by simpa using ‹(!r) = false›); have hpn := hf.1; have HF := hideIt hf.2; clear hf; have HG2 := HG; have HB2 := hideIt (Below.refl w.heap.size w); refine (zzacc_len id em un ev false true _ 0 0 P w D L HD.out HL.out hpn HG2.out HF.out).mono ?_; rintro e w3 ⟨g, cap, rfl, hg, hrow, hb3⟩; have HR := hideIt hrow; have HB3 := hideIt hb3; have hnil := fun w => Lib.run_eql_slice_nil (P := Trym.prog) w 22 9 (some ⟨g, 0, none⟩) L cap 0 0 Trym.underlying22; have c0 := hrow 0 d0 hd0.out; have hgw := block_lt c0; simp only at hgw; clear hrow hb3 hne))
  · go_ret; exact ⟨rfl, Below.refl _ _⟩
  · go_ret; exact ⟨rfl, Below.refl _ _⟩
  have HSo := hideIt (row_below HR.out ((Below.refl _ _).alloc (Nat.le_refl w3.heap.size) (.cells #[.string id, .string em, .bool ev, .string un, .slice (some ⟨g, 0, none⟩) L cap] 26)))
  have HPo := hideIt (gave_below (gave_below HG2.out HB3.out) ((Below.refl _ _).alloc (Nat.le_refl w3.heap.size) (.cells #[.string id, .string em, .bool ev, .string un, .slice (some ⟨g, 0, none⟩) L cap] 26)))
  have HBo := hideIt ((HB2.out.trans (HB3.out.mono HB2.out.size)).alloc (Nat.le_trans HB2.out.size HB3.out.size) (.cells #[.string id, .string em, .bool ev, .string un, .slice (some ⟨g, 0, none⟩) L cap] 26))
  clear HR HG2 HB3 HB2 hnil c0 hgw hd0 hd1 hg H5 H6 HG hi hz0 hz1 hz2
  go_loopw [18, 20] (fun i j wr => ∃ k : Nat, k ≤ 0 ∧ i = .int .i64 (0 + k : Nat) ∧ j = .int .i64 k ∧ HasRow wr g D ∧ Gave wr none 0 P ∧ Below w.heap.size w wr) (fun _ j _ => 0 - (intOf j).toNat)
  case atStart => exact ⟨0, Nat.zero_le _, rfl, rfl, HSo.out, HPo.out, HBo.out⟩
  case round =>
    clear HSo HPo HBo
    obtain ⟨k, hk, rfl, rfl, hrow, hgave, hbel⟩ := hrel
    have HR := hideIt hrow
    have HP := hideIt hgave
    have HB := hideIt hbel
    clear hrow hgave hbel
    obtain rfl : k = 0 := by omega
    obtain ⟨s, hs⟩ : ∃ s, Hid (PK = s) := ⟨_, (rfl : PK = PK)⟩
    have s1 : isOidc s = false := by rw [← hs.out]; exact pk_oidc
    have s2 : (s.toList == [112, 97, 115, 115, 107, 101, 121]) = true := by rw [← hs.out]; exact pk_pk
    have s4 : s.size ≤ 1048581 := by rw [← hs.out]; decide +kernel
    have cd : wr.cell? ⟨g, 0, none⟩ = some (.string s) := HR.out (0) s (by have := doors_pk false P 0; rw [HD.out, hs.out] at this; simpa using this)
    have hkL : (0 : Int) < (L : Int) := by omega
    go_wp2_with (first | (go_at_call 8; refine (oidc_any _ _ (by unfold maxLen; omega)).mono ?_; rintro e w' ⟨rfl, rfl⟩; rw [s1]))
    go_ret
    refine ⟨ret_bool ?_, HB.out⟩
    simp <;> omega

set_option maxRecDepth 100000 in
set_option maxHeartbeats 2000000 in
theorem dec_none_false_false (id em un : ByteArray) (ev : Bool) (P : Nat → ByteArray) (w : World) (hid : id.size ≤ maxLen) (hem : em.size ≤ maxLen) (hun : un.size ≤ maxLen) (hcame : Came w none 0 P) :
    Calls Trym.prog 3 #[.string id, .string em, .bool ev, .string un, .bool false, .slice none 0 0, .bool false] w fun e w' => e = .returned (.bool true) ∧ Below w.heap.size w w' := by
  have H5 := hideIt (bytesD id em un ev false false none 0 0 P w hid hem hun hcame)
  have H6 := hideIt (fits_any id em un none 0 0 P w hid hem hun hcame)
  have hpm : 0 ≤ maxLen := hcame.2.1
  unfold maxLen at hpm
  have HG := hideIt hcame.1
  clear hcame hid hem hun
  have hne := fun w => run_neq_slice_nil_any (P := Trym.prog) w 22 9 none 0 0 0 0 Trym.underlying22
  obtain ⟨i0, hi, hz0, hz1, hz2⟩ := info_parts info9
  obtain ⟨D, HD⟩ : ∃ D, Hid (doors false P 0 false = D) := ⟨_, (rfl : doors false P 0 false = doors false P 0 false)⟩
  obtain ⟨L, HL⟩ : ∃ L, Hid (D.length = L) := ⟨_, (rfl : D.length = D.length)⟩
  have hL : L = 0 + 0 + 0 := by rw [← HL.out, ← HD.out, doors_len]; simp
  have hL1 : L ≤ 0 + 0 + 0 := by omega
  have hL2 : 0 + 0 + 0 ≤ L := by omega
  clear hL
  go_enter Trym.func3, Trym.ntmps3
  go_wp2_with (first | (go_at_call 5; refine H5.out.mono ?_; rintro e w' ⟨r, rfl, hr, rfl⟩) | (go_at_call 6; refine H6.out.mono ?_; rintro e w' ⟨r6, rfl, _, rfl⟩) | (go_at_call 7; have hf : Fits 0 P := hr (by simpa using ‹(!r) = false›); have hpn := hf.1; have HF := hideIt hf.2; clear hf; have HG2 := HG; have HB2 := hideIt (Below.refl w.heap.size w); refine (zzacc_len id em un ev false false _ 0 0 P w D L HD.out HL.out hpn HG2.out HF.out).mono ?_; rintro e w3 ⟨g, cap, rfl, hg, hrow, hb3⟩; have HR := hideIt hrow; have HB3 := hideIt hb3; have hnil := fun w => Lib.run_eql_slice_nil (P := Trym.prog) w 22 9 (some ⟨g, 0, none⟩) L cap 0 0 Trym.underlying22; clear hrow hb3 hne))
  · go_ret; exact ⟨rfl, Below.refl _ _⟩
  · go_ret; exact ⟨rfl, Below.refl _ _⟩
  have HSo := hideIt (row_below HR.out ((Below.refl _ _).alloc (Nat.le_refl w3.heap.size) (.cells #[.string id, .string em, .bool ev, .string un, .slice (some ⟨g, 0, none⟩) L cap] 26)))
  have HPo := hideIt (gave_below (gave_below HG2.out HB3.out) ((Below.refl _ _).alloc (Nat.le_refl w3.heap.size) (.cells #[.string id, .string em, .bool ev, .string un, .slice (some ⟨g, 0, none⟩) L cap] 26)))
  have HBo := hideIt ((HB2.out.trans (HB3.out.mono HB2.out.size)).alloc (Nat.le_trans HB2.out.size HB3.out.size) (.cells #[.string id, .string em, .bool ev, .string un, .slice (some ⟨g, 0, none⟩) L cap] 26))
  clear HR HG2 HB3 HB2 hnil hg H5 H6 HG hi hz0 hz1 hz2
  go_loopw [18, 20] (fun i j wr => ∃ k : Nat, k ≤ 0 ∧ i = .int .i64 (0 + k : Nat) ∧ j = .int .i64 k ∧ HasRow wr g D ∧ Gave wr none 0 P ∧ Below w.heap.size w wr) (fun _ j _ => 0 - (intOf j).toNat)
  case atStart => exact ⟨0, Nat.zero_le _, rfl, rfl, HSo.out, HPo.out, HBo.out⟩
  case round =>
    clear HSo HPo HBo
    obtain ⟨k, hk, rfl, rfl, hrow, hgave, hbel⟩ := hrel
    have HR := hideIt hrow
    have HP := hideIt hgave
    have HB := hideIt hbel
    clear hrow hgave hbel
    obtain rfl : k = 0 := by omega
    go_wp2
    go_ret
    refine ⟨ret_bool ?_, HB.out⟩
    simp <;> omega

theorem dec_any (id em un : ByteArray) (ev pb kb : Bool) (pa : Option Addr) (pn pc : Nat) (P : Nat → ByteArray) (w : World) (hid : id.size ≤ maxLen) (hem : em.size ≤ maxLen) (hun : un.size ≤ maxLen) (hcame : Came w pa pn P) (hnil : pa = none → pn = 0 ∧ pc = 0) :
    Calls Trym.prog 3 #[.string id, .string em, .bool ev, .string un, .bool pb, .slice pa pn pc, .bool kb] w fun e w' => e = .returned (.bool true) ∧ Below w.heap.size w w' := by
  cases pa with
  | none =>
    obtain ⟨rfl, rfl⟩ := hnil rfl
    cases pb <;> cases kb
    · exact dec_none_false_false id em un ev P w hid hem hun hcame
    · exact dec_none_false_true id em un ev P w hid hem hun hcame
    · exact dec_none_true_false id em un ev P w hid hem hun hcame
    · exact dec_none_true_true id em un ev P w hid hem hun hcame
  | some x =>
    cases pb <;> cases kb
    · by_cases hz : pn ≤ 0
      · exact dec_some_false_false_zero id em un ev x pn pc P w hid hem hun hcame hz
      · exact dec_some_false_false_pos id em un ev x pn pc P w hid hem hun hcame (by omega)
    · by_cases hz : pn ≤ 0
      · exact dec_some_false_true_zero id em un ev x pn pc P w hid hem hun hcame hz
      · exact dec_some_false_true_pos id em un ev x pn pc P w hid hem hun hcame (by omega)
    · exact dec_some_true_false id em un ev x pn pc P w hid hem hun hcame
    · exact dec_some_true_true id em un ev x pn pc P w hid hem hun hcame
end Go.Proofs.Qxb6619196aMods.acd
