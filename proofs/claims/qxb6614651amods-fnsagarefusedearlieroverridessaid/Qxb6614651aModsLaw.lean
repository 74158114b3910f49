/-
  THE WALK of the law (function 3): one walk a kind of input (each reason nil or not).
-/
import Derived.Test.Qxb6614651aModsFacts
namespace Go.Proofs.Qxb6614651aMods.sag
open Go.ChangeShapes Go.WideShapes Go.ChangeAt Go.RowKit
set_option linter.unusedVariables false

set_option maxRecDepth 100000 in
set_option maxHeartbeats 4000000 in
theorem law_none_none (gid st : ByteArray) (b off n bc i j : Nat) (B : Bs) (w : World) (hg : gid.size ≤ maxLen) (hs : st.size ≤ maxLen) (hc : Came w (some ⟨b, off, none⟩) n B) (hin : In w b off n B)
    (hnil : ∀ k, k < n → B.pa k = none → B.pl k = 0 ∧ B.pc k = 0) (hji : j ≤ i) (hi : i < n) :
    Calls Trym.prog 3 #[.string gid, .string st, .slice (some ⟨b, off, none⟩) n bc, .int .i64 i, .int .i64 j, .slice none 0 0, .slice none 0 0] w fun e w' => e = .returned (.bool true) ∧ Below w.heap.size w w' := by
  have H4 := hideIt (bytes_any gid st (some ⟨b, off, none⟩) n bc B i j none none 0 0 0 0 w hg hs (Nat.zero_le _) (Nat.zero_le _) hc)
  have HC := hideIt hc
  have HIn := hideIt hin
  have HN := hideIt hnil
  have hn0 := hc.len
  have jj : (j : Int) ≤ (i : Int) := by omega
  have j0 : (0 : Int) ≤ (j : Int) := by omega
  have ii : (i : Int) < (n : Int) := by omega
  unfold maxLen at hg hs hn0
  clear hc hin hnil
  have ne1 := fun w => run_neq_slice_nil_any (P := Trym.prog) w 23 5 none 0 0 0 0 Trym.underlying23
  obtain ⟨i0, hi0, hzz0, hzz1, hzz2⟩ := info_parts info5
  go_enter Trym.func3, Trym.ntmps3
  go_wp2_with (first | (go_at_call 4; refine H4.out.mono ?_; rintro e w4 ⟨r4, rfl, hr4, n4, hw4⟩; have HB4 : Hid (Below w.heap.size w w4) := (by rw [hw4]; exact below_drewN (Below.refl _ _) _); clear hw4; have HR4 := hideIt hr4; clear hr4) | (go_at_call 5; have HF := hideIt (HR4.out (by simpa using ‹(!r4) = false›)); refine (ok_any _ n bc B _ w4 (by omega) (by omega) (HC.out.below HB4.out) HF.out.2.1).mono ?_; rintro e w5 ⟨r5, rfl, _, n5, hw5⟩; have HB5 : Hid (Below w.heap.size w w5) := (by rw [hw5]; exact below_drewN HB4.out _); clear hw5))
  all_goals (try (go_ret; first | exact ⟨rfl, HB4.out⟩ | exact ⟨rfl, HB5.out⟩))
  have hn : n ≤ 1048576 := HF.out.1
  have hnp : 0 < n := by omega
  have HSm := hideIt HF.out.2.1
  have Z1 : Hid (RAt w5 none 0 (fun _ => 0)) := Or.inl ⟨rfl, rfl⟩
  have Z2 : Hid (RAt w5 none 0 (fun _ => 0)) := Or.inl ⟨rfl, rfl⟩
  clear ne1 hi0 hzz0 hzz1 hzz2 H4
  refine (build_any gid st b off n bc B w5 hn hnp (HIn.out.below HB5.out) (fun k hk => (HSm.out k hk).1) HN.out).mono ?_
  rintro e wA ⟨rfl, Y1, recA, payA, belA⟩
  have RA := hideIt recA
  have PA := hideIt payA
  have BA := hideIt belA
  clear recA payA belA
  go_wp2_with fail
  refine (build_any gid st b off n bc B wA hn hnp (HIn.out.below (HB5.out.trans (BA.out.mono HB5.out.size))) (fun k hk => (HSm.out k hk).1) HN.out).mono ?_
  rintro e wB ⟨rfl, Y2, recB, payB, belB⟩
  have RB := hideIt recB
  have PB := hideIt payB
  have BB := hideIt belB
  clear recB payB belB
  have szA : w5.heap.size + 2 ≤ wA.heap.size := by have := block_lt (RA.out.row 0 0 hnp (by omega)); simp only at this; omega
  have szB : wA.heap.size + 2 ≤ wB.heap.size := by have := block_lt (RB.out.row 0 0 hnp (by omega)); simp only at this; omega
  have CB := hideIt (BA.out.trans (BB.out.mono BA.out.size))
  go_wp2_with fail
  refine (refused_any w5.heap.size (w5.heap.size + 1) n i gid st (.pointer none) (fields B Y1 B.st) none 0 0 (fun _ => 0) wB hn hi (RA.out.keep hnp BB.out) (B.br i) rfl (Z1.out.below CB.out)).mono ?_
  rintro e wC ⟨rfl, recC, cc1, cc2, onlC⟩
  have RC := hideIt recC
  have OC := hideIt onlC
  clear recC cc1 cc2 onlC
  have CC := hideIt (CB.out.trans (OC.out.below (B := w5.heap.size) (by omega) (Nat.le_refl _) (by omega)))
  go_wp2_with fail
  refine (refused_any w5.heap.size (w5.heap.size + 1) n j gid COMP _ _ none 0 0 (fun _ => 0) wC hn (by omega) RC.out (B.br j) rfl (Z2.out.below CC.out)).mono ?_
  rintro e wD ⟨rfl, recD, cd1, cd2, onlD⟩
  have RD := hideIt recD
  have OD := hideIt onlD
  have KD1 := hideIt cd1
  have KD2 := hideIt cd2
  clear recD cd1 cd2 onlD
  have szC : wB.heap.size ≤ wC.heap.size := OC.out.size
  have szD : wC.heap.size + 1 ≤ wD.heap.size := by have := block_lt KD1.out; simp only at this; omega
  have CD := hideIt (CC.out.trans (OD.out.below (B := w5.heap.size) (by omega) (Nat.le_refl _) (by omega)))
  have RBD := hideIt ((RB.out.only hnp OC.out (by omega) (by omega) (by omega) (by omega)).only hnp OD.out (by omega) (by omega) (by omega) (by omega))
  go_wp2_with fail
  refine (refused_any wA.heap.size (wA.heap.size + 1) n j gid st (.pointer none) (fields B Y2 B.st) none 0 0 (fun _ => 0) wD hn (by omega) RBD.out (B.br j) rfl (Z2.out.below CD.out)).mono ?_
  rintro e wE ⟨rfl, recE, ce1, ce2, onlE⟩
  have RE := hideIt recE
  have OE := hideIt onlE
  have KE1 := hideIt ce1
  have KE2 := hideIt ce2
  clear recE ce1 ce2 onlE
  have CE := hideIt (CD.out.trans (OE.out.below (B := w5.heap.size) (by omega) (by omega) (by omega)))
  have FB := hideIt (RE.out.congr (fun k f hk _ => turned_one B Y2 j n k f hk))
  have FA := hideIt ((RD.out.only hnp OE.out (by omega) (by omega) (by omega) (by omega)).congr (fun k f hk _ => turned_two B Y1 i j n k f hji hk))
  have PYB : Hid (Pays wE B n Y2) := fun k hk => (((((PB.out k hk).bd.only OC.out (fun g hg => ⟨by omega, by omega⟩)).only OD.out (fun g hg => ⟨by omega, by omega⟩)).only OE.out (fun g hg => ⟨by omega, by omega⟩))).is
  have PYA : Hid (Pays wE B n Y1) := fun k hk => ((((((PA.out k hk).bd.only (Only.of_below (r := w5.heap.size) (q := w5.heap.size + 1) BB.out) (fun g hg => ⟨by omega, by omega⟩)).only OC.out (fun g hg => ⟨by omega, by omega⟩)).only OD.out (fun g hg => ⟨by omega, by omega⟩)).only OE.out (fun g hg => ⟨by omega, by omega⟩))).is
  have QA1 := hideIt (OE.out.cell KD1.out (by show wC.heap.size ≠ wA.heap.size; omega) (by show wC.heap.size ≠ wA.heap.size + 1; omega))
  have QA2 := hideIt (OE.out.cell KD2.out (by show wC.heap.size ≠ wA.heap.size; omega) (by show wC.heap.size ≠ wA.heap.size + 1; omega))
  have IE := hideIt (HIn.out.below (HB5.out.trans (CE.out.mono HB5.out.size)))
  have hplm : ∀ k, k < n → B.pl k ≤ maxLen := fun k hk => by have := (HSm.out k hk).1; unfold maxLen; omega
  have HPM := hideIt hplm
  clear hplm
  go_wp2_with fail
  refine (at_any wA.heap.size (wA.heap.size + 1) n j wD.heap.size b off bc gid B Y2 none 0 0 (fun _ => 0) wE hn (by omega) FB.out PYB.out IE.out (Z2.out.below CE.out) KE1.out KE2.out HPM.out).mono ?_
  rintro e wF ⟨rfl, belF⟩
  have BF := hideIt belF
  clear belF
  go_wp2_with fail
  refine (samerec_any w5.heap.size (w5.heap.size + 1) wA.heap.size (wA.heap.size + 1) n wC.heap.size wD.heap.size gid COMP B Y1 Y2 (statAt B j) (B.br j) (strOf (fun _ => 0) 0) wF hn hnp (FA.out.keep hnp BF.out) (FB.out.keep hnp BF.out) (PYA.out.below BF.out) (PYB.out.below BF.out)
    (by rw [BF.out.cell (block_lt QA1.out)]; exact QA1.out) (by rw [BF.out.cell (block_lt QA2.out)]; exact QA2.out) (by rw [BF.out.cell (block_lt KE1.out)]; exact KE1.out) (by rw [BF.out.cell (block_lt KE2.out)]; exact KE2.out) HPM.out).mono ?_
  rintro e wG ⟨rfl, belG⟩
  have BG := hideIt belG
  clear belG
  go_wp2_with fail
  go_ret
  exact ⟨by simp, HB5.out.trans ((CE.out.trans ((BF.out.mono CE.out.size).trans (BG.out.mono (Nat.le_trans CE.out.size BF.out.size)))).mono HB5.out.size)⟩

set_option maxRecDepth 100000 in
set_option maxHeartbeats 4000000 in
theorem law_none_some (gid st : ByteArray) (b off n bc i j : Nat) (B : Bs) (x2 : Addr) (l2 k2 : Nat) (z2 : Nat → Int) (w : World) (hg : gid.size ≤ maxLen) (hs : st.size ≤ maxLen) (hc : Came w (some ⟨b, off, none⟩) n B) (hin : In w b off n B)
    (hnil : ∀ k, k < n → B.pa k = none → B.pl k = 0 ∧ B.pc k = 0) (hji : j ≤ i) (hi : i < n) (hl2 : l2 ≤ maxLen) (hz2 : BytesAt w (some x2) l2 z2) :
    Calls Trym.prog 3 #[.string gid, .string st, .slice (some ⟨b, off, none⟩) n bc, .int .i64 i, .int .i64 j, .slice none 0 0, .slice (some x2) l2 k2] w fun e w' => e = .returned (.bool true) ∧ Below w.heap.size w w' := by
  have H4 := hideIt (bytes_any gid st (some ⟨b, off, none⟩) n bc B i j none (some x2) 0 0 l2 k2 w hg hs (Nat.zero_le _) hl2 hc)
  have HC := hideIt hc
  have HIn := hideIt hin
  have HN := hideIt hnil
  have hn0 := hc.len
  have jj : (j : Int) ≤ (i : Int) := by omega
  have j0 : (0 : Int) ≤ (j : Int) := by omega
  have ii : (i : Int) < (n : Int) := by omega
  unfold maxLen at hg hs hn0 hl2
  clear hc hin hnil
  have HZ2 := hideIt hz2
  clear hz2
  have ne1 := fun w => run_neq_slice_nil_any (P := Trym.prog) w 23 5 none 0 0 0 0 Trym.underlying23
  have ne2 := fun w => run_neq_slice_nil_any (P := Trym.prog) w 23 5 (some x2) l2 k2 0 0 Trym.underlying23
  obtain ⟨i0, hi0, hzz0, hzz1, hzz2⟩ := info_parts info5
  go_enter Trym.func3, Trym.ntmps3
  go_wp2_with (first | (go_at_call 4; refine H4.out.mono ?_; rintro e w4 ⟨r4, rfl, hr4, n4, hw4⟩; have HB4 : Hid (Below w.heap.size w w4) := (by rw [hw4]; exact below_drewN (Below.refl _ _) _); clear hw4; have HR4 := hideIt hr4; clear hr4) | (go_at_call 5; have HF := hideIt (HR4.out (by simpa using ‹(!r4) = false›)); refine (ok_any _ n bc B _ w4 (by omega) (by omega) (HC.out.below HB4.out) HF.out.2.1).mono ?_; rintro e w5 ⟨r5, rfl, _, n5, hw5⟩; have HB5 : Hid (Below w.heap.size w w5) := (by rw [hw5]; exact below_drewN HB4.out _); clear hw5) | (at_make; have hl2' := HF.out.2.2.2; refine wpList_make_full _ rfl (.tmp 92) (.tmp 92) 23 rfl w5.heap.size 5 i0 (.int .u8 0) 1 Trym.underlying23 hi0 hzz0 hzz1 .i64 .i64 _ _ l2 rfl rfl rfl rfl (by rw [hzz2]; omega) (by unfold maxLen; omega) (Nat.le_refl _) ?_; intro wb hown hgrow; obtain ⟨w7, hrun7, hg7, hb7⟩ := copied (cap := k2) hown hgrow (HZ2.out.below HB5.out); have HG7 := hideIt hg7; have HB7 := hideIt (HB5.out.trans (hb7.mono HB5.out.size)); have HK7 := hideIt hb7; clear hg7 hb7 hown hgrow))
  all_goals (try (go_ret; first | exact ⟨rfl, HB4.out⟩ | exact ⟨rfl, HB5.out⟩))
  have hn : n ≤ 1048576 := HF.out.1
  have hnp : 0 < n := by omega
  have HSm := hideIt HF.out.2.1
  have Z1 : Hid (RAt w7 none 0 (fun _ => 0)) := Or.inl ⟨rfl, rfl⟩
  have Z2 : Hid (RAt w7 (some ⟨w5.heap.size, 0, none⟩) l2 z2) := HG7.out
  clear ne1 hi0 hzz0 hzz1 hzz2 H4 ne2 hrun7 HG7 HZ2 HK7
  refine (build_any gid st b off n bc B w7 hn hnp (HIn.out.below HB7.out) (fun k hk => (HSm.out k hk).1) HN.out).mono ?_
  rintro e wA ⟨rfl, Y1, recA, payA, belA⟩
  have RA := hideIt recA
  have PA := hideIt payA
  have BA := hideIt belA
  clear recA payA belA
  go_wp2_with fail
  refine (build_any gid st b off n bc B wA hn hnp (HIn.out.below (HB7.out.trans (BA.out.mono HB7.out.size))) (fun k hk => (HSm.out k hk).1) HN.out).mono ?_
  rintro e wB ⟨rfl, Y2, recB, payB, belB⟩
  have RB := hideIt recB
  have PB := hideIt payB
  have BB := hideIt belB
  clear recB payB belB
  have szA : w7.heap.size + 2 ≤ wA.heap.size := by have := block_lt (RA.out.row 0 0 hnp (by omega)); simp only at this; omega
  have szB : wA.heap.size + 2 ≤ wB.heap.size := by have := block_lt (RB.out.row 0 0 hnp (by omega)); simp only at this; omega
  have CB := hideIt (BA.out.trans (BB.out.mono BA.out.size))
  go_wp2_with fail
  refine (refused_any w7.heap.size (w7.heap.size + 1) n i gid st (.pointer none) (fields B Y1 B.st) none 0 0 (fun _ => 0) wB hn hi (RA.out.keep hnp BB.out) (B.br i) rfl (Z1.out.below CB.out)).mono ?_
  rintro e wC ⟨rfl, recC, cc1, cc2, onlC⟩
  have RC := hideIt recC
  have OC := hideIt onlC
  clear recC cc1 cc2 onlC
  have CC := hideIt (CB.out.trans (OC.out.below (B := w7.heap.size) (by omega) (Nat.le_refl _) (by omega)))
  go_wp2_with fail
  refine (refused_any w7.heap.size (w7.heap.size + 1) n j gid COMP _ _ (some ⟨w5.heap.size, 0, none⟩) l2 l2 z2 wC hn (by omega) RC.out (B.br j) rfl (Z2.out.below CC.out)).mono ?_
  rintro e wD ⟨rfl, recD, cd1, cd2, onlD⟩
  have RD := hideIt recD
  have OD := hideIt onlD
  have KD1 := hideIt cd1
  have KD2 := hideIt cd2
  clear recD cd1 cd2 onlD
  have szC : wB.heap.size ≤ wC.heap.size := OC.out.size
  have szD : wC.heap.size + 1 ≤ wD.heap.size := by have := block_lt KD1.out; simp only at this; omega
  have CD := hideIt (CC.out.trans (OD.out.below (B := w7.heap.size) (by omega) (Nat.le_refl _) (by omega)))
  have RBD := hideIt ((RB.out.only hnp OC.out (by omega) (by omega) (by omega) (by omega)).only hnp OD.out (by omega) (by omega) (by omega) (by omega))
  go_wp2_with fail
  refine (refused_any wA.heap.size (wA.heap.size + 1) n j gid st (.pointer none) (fields B Y2 B.st) (some ⟨w5.heap.size, 0, none⟩) l2 l2 z2 wD hn (by omega) RBD.out (B.br j) rfl (Z2.out.below CD.out)).mono ?_
  rintro e wE ⟨rfl, recE, ce1, ce2, onlE⟩
  have RE := hideIt recE
  have OE := hideIt onlE
  have KE1 := hideIt ce1
  have KE2 := hideIt ce2
  clear recE ce1 ce2 onlE
  have CE := hideIt (CD.out.trans (OE.out.below (B := w7.heap.size) (by omega) (by omega) (by omega)))
  have FB := hideIt (RE.out.congr (fun k f hk _ => turned_one B Y2 j n k f hk))
  have FA := hideIt ((RD.out.only hnp OE.out (by omega) (by omega) (by omega) (by omega)).congr (fun k f hk _ => turned_two B Y1 i j n k f hji hk))
  have PYB : Hid (Pays wE B n Y2) := fun k hk => (((((PB.out k hk).bd.only OC.out (fun g hg => ⟨by omega, by omega⟩)).only OD.out (fun g hg => ⟨by omega, by omega⟩)).only OE.out (fun g hg => ⟨by omega, by omega⟩))).is
  have PYA : Hid (Pays wE B n Y1) := fun k hk => ((((((PA.out k hk).bd.only (Only.of_below (r := w7.heap.size) (q := w7.heap.size + 1) BB.out) (fun g hg => ⟨by omega, by omega⟩)).only OC.out (fun g hg => ⟨by omega, by omega⟩)).only OD.out (fun g hg => ⟨by omega, by omega⟩)).only OE.out (fun g hg => ⟨by omega, by omega⟩))).is
  have QA1 := hideIt (OE.out.cell KD1.out (by show wC.heap.size ≠ wA.heap.size; omega) (by show wC.heap.size ≠ wA.heap.size + 1; omega))
  have QA2 := hideIt (OE.out.cell KD2.out (by show wC.heap.size ≠ wA.heap.size; omega) (by show wC.heap.size ≠ wA.heap.size + 1; omega))
  have IE := hideIt (HIn.out.below (HB7.out.trans (CE.out.mono HB7.out.size)))
  have hplm : ∀ k, k < n → B.pl k ≤ maxLen := fun k hk => by have := (HSm.out k hk).1; unfold maxLen; omega
  have HPM := hideIt hplm
  clear hplm
  go_wp2_with fail
  refine (at_any wA.heap.size (wA.heap.size + 1) n j wD.heap.size b off bc gid B Y2 (some ⟨w5.heap.size, 0, none⟩) l2 l2 z2 wE hn (by omega) FB.out PYB.out IE.out (Z2.out.below CE.out) KE1.out KE2.out HPM.out).mono ?_
  rintro e wF ⟨rfl, belF⟩
  have BF := hideIt belF
  clear belF
  go_wp2_with fail
  refine (samerec_any w7.heap.size (w7.heap.size + 1) wA.heap.size (wA.heap.size + 1) n wC.heap.size wD.heap.size gid COMP B Y1 Y2 (statAt B j) (B.br j) (strOf z2 l2) wF hn hnp (FA.out.keep hnp BF.out) (FB.out.keep hnp BF.out) (PYA.out.below BF.out) (PYB.out.below BF.out)
    (by rw [BF.out.cell (block_lt QA1.out)]; exact QA1.out) (by rw [BF.out.cell (block_lt QA2.out)]; exact QA2.out) (by rw [BF.out.cell (block_lt KE1.out)]; exact KE1.out) (by rw [BF.out.cell (block_lt KE2.out)]; exact KE2.out) HPM.out).mono ?_
  rintro e wG ⟨rfl, belG⟩
  have BG := hideIt belG
  clear belG
  go_wp2_with fail
  go_ret
  exact ⟨by simp, HB7.out.trans ((CE.out.trans ((BF.out.mono CE.out.size).trans (BG.out.mono (Nat.le_trans CE.out.size BF.out.size)))).mono HB7.out.size)⟩

set_option maxRecDepth 100000 in
set_option maxHeartbeats 4000000 in
theorem law_some_none (gid st : ByteArray) (b off n bc i j : Nat) (B : Bs) (x1 : Addr) (l1 k1 : Nat) (z1 : Nat → Int) (w : World) (hg : gid.size ≤ maxLen) (hs : st.size ≤ maxLen) (hc : Came w (some ⟨b, off, none⟩) n B) (hin : In w b off n B)
    (hnil : ∀ k, k < n → B.pa k = none → B.pl k = 0 ∧ B.pc k = 0) (hji : j ≤ i) (hi : i < n) (hl1 : l1 ≤ maxLen) (hz1 : BytesAt w (some x1) l1 z1) :
    Calls Trym.prog 3 #[.string gid, .string st, .slice (some ⟨b, off, none⟩) n bc, .int .i64 i, .int .i64 j, .slice (some x1) l1 k1, .slice none 0 0] w fun e w' => e = .returned (.bool true) ∧ Below w.heap.size w w' := by
  have H4 := hideIt (bytes_any gid st (some ⟨b, off, none⟩) n bc B i j (some x1) none l1 k1 0 0 w hg hs hl1 (Nat.zero_le _) hc)
  have HC := hideIt hc
  have HIn := hideIt hin
  have HN := hideIt hnil
  have hn0 := hc.len
  have jj : (j : Int) ≤ (i : Int) := by omega
  have j0 : (0 : Int) ≤ (j : Int) := by omega
  have ii : (i : Int) < (n : Int) := by omega
  unfold maxLen at hg hs hn0 hl1
  clear hc hin hnil
  have HZ1 := hideIt hz1
  clear hz1
  have ne1 := fun w => run_neq_slice_nil_any (P := Trym.prog) w 23 5 (some x1) l1 k1 0 0 Trym.underlying23
  have ne2 := fun w => run_neq_slice_nil_any (P := Trym.prog) w 23 5 none 0 0 0 0 Trym.underlying23
  obtain ⟨i0, hi0, hzz0, hzz1, hzz2⟩ := info_parts info5
  go_enter Trym.func3, Trym.ntmps3
  go_wp2_with (first | (go_at_call 4; refine H4.out.mono ?_; rintro e w4 ⟨r4, rfl, hr4, n4, hw4⟩; have HB4 : Hid (Below w.heap.size w w4) := (by rw [hw4]; exact below_drewN (Below.refl _ _) _); clear hw4; have HR4 := hideIt hr4; clear hr4) | (go_at_call 5; have HF := hideIt (HR4.out (by simpa using ‹(!r4) = false›)); refine (ok_any _ n bc B _ w4 (by omega) (by omega) (HC.out.below HB4.out) HF.out.2.1).mono ?_; rintro e w5 ⟨r5, rfl, _, n5, hw5⟩; have HB5 : Hid (Below w.heap.size w w5) := (by rw [hw5]; exact below_drewN HB4.out _); clear hw5) | (at_make; have hl1' := HF.out.2.2.1; refine wpList_make_full _ rfl (.tmp 83) (.tmp 83) 23 rfl w5.heap.size 5 i0 (.int .u8 0) 1 Trym.underlying23 hi0 hzz0 hzz1 .i64 .i64 _ _ l1 rfl rfl rfl rfl (by rw [hzz2]; omega) (by unfold maxLen; omega) (Nat.le_refl _) ?_; intro wa hown hgrow; obtain ⟨w6, hrun6, hg6, hb6⟩ := copied (cap := k1) hown hgrow (HZ1.out.below HB5.out); have HG6 := hideIt hg6; have HB6 := hideIt (HB5.out.trans (hb6.mono HB5.out.size)); clear hg6 hb6 hown hgrow))
  all_goals (try (go_ret; first | exact ⟨rfl, HB4.out⟩ | exact ⟨rfl, HB5.out⟩))
  have hn : n ≤ 1048576 := HF.out.1
  have hnp : 0 < n := by omega
  have HSm := hideIt HF.out.2.1
  have Z1 : Hid (RAt w6 (some ⟨w5.heap.size, 0, none⟩) l1 z1) := HG6.out
  have Z2 : Hid (RAt w6 none 0 (fun _ => 0)) := Or.inl ⟨rfl, rfl⟩
  clear ne1 hi0 hzz0 hzz1 hzz2 H4 ne2 hrun6 HG6 HZ1
  refine (build_any gid st b off n bc B w6 hn hnp (HIn.out.below HB6.out) (fun k hk => (HSm.out k hk).1) HN.out).mono ?_
  rintro e wA ⟨rfl, Y1, recA, payA, belA⟩
  have RA := hideIt recA
  have PA := hideIt payA
  have BA := hideIt belA
  clear recA payA belA
  go_wp2_with fail
  refine (build_any gid st b off n bc B wA hn hnp (HIn.out.below (HB6.out.trans (BA.out.mono HB6.out.size))) (fun k hk => (HSm.out k hk).1) HN.out).mono ?_
  rintro e wB ⟨rfl, Y2, recB, payB, belB⟩
  have RB := hideIt recB
  have PB := hideIt payB
  have BB := hideIt belB
  clear recB payB belB
  have szA : w6.heap.size + 2 ≤ wA.heap.size := by have := block_lt (RA.out.row 0 0 hnp (by omega)); simp only at this; omega
  have szB : wA.heap.size + 2 ≤ wB.heap.size := by have := block_lt (RB.out.row 0 0 hnp (by omega)); simp only at this; omega
  have CB := hideIt (BA.out.trans (BB.out.mono BA.out.size))
  go_wp2_with fail
  refine (refused_any w6.heap.size (w6.heap.size + 1) n i gid st (.pointer none) (fields B Y1 B.st) (some ⟨w5.heap.size, 0, none⟩) l1 l1 z1 wB hn hi (RA.out.keep hnp BB.out) (B.br i) rfl (Z1.out.below CB.out)).mono ?_
  rintro e wC ⟨rfl, recC, cc1, cc2, onlC⟩
  have RC := hideIt recC
  have OC := hideIt onlC
  clear recC cc1 cc2 onlC
  have CC := hideIt (CB.out.trans (OC.out.below (B := w6.heap.size) (by omega) (Nat.le_refl _) (by omega)))
  go_wp2_with fail
  refine (refused_any w6.heap.size (w6.heap.size + 1) n j gid COMP _ _ none 0 0 (fun _ => 0) wC hn (by omega) RC.out (B.br j) rfl (Z2.out.below CC.out)).mono ?_
  rintro e wD ⟨rfl, recD, cd1, cd2, onlD⟩
  have RD := hideIt recD
  have OD := hideIt onlD
  have KD1 := hideIt cd1
  have KD2 := hideIt cd2
  clear recD cd1 cd2 onlD
  have szC : wB.heap.size ≤ wC.heap.size := OC.out.size
  have szD : wC.heap.size + 1 ≤ wD.heap.size := by have := block_lt KD1.out; simp only at this; omega
  have CD := hideIt (CC.out.trans (OD.out.below (B := w6.heap.size) (by omega) (Nat.le_refl _) (by omega)))
  have RBD := hideIt ((RB.out.only hnp OC.out (by omega) (by omega) (by omega) (by omega)).only hnp OD.out (by omega) (by omega) (by omega) (by omega))
  go_wp2_with fail
  refine (refused_any wA.heap.size (wA.heap.size + 1) n j gid st (.pointer none) (fields B Y2 B.st) none 0 0 (fun _ => 0) wD hn (by omega) RBD.out (B.br j) rfl (Z2.out.below CD.out)).mono ?_
  rintro e wE ⟨rfl, recE, ce1, ce2, onlE⟩
  have RE := hideIt recE
  have OE := hideIt onlE
  have KE1 := hideIt ce1
  have KE2 := hideIt ce2
  clear recE ce1 ce2 onlE
  have CE := hideIt (CD.out.trans (OE.out.below (B := w6.heap.size) (by omega) (by omega) (by omega)))
  have FB := hideIt (RE.out.congr (fun k f hk _ => turned_one B Y2 j n k f hk))
  have FA := hideIt ((RD.out.only hnp OE.out (by omega) (by omega) (by omega) (by omega)).congr (fun k f hk _ => turned_two B Y1 i j n k f hji hk))
  have PYB : Hid (Pays wE B n Y2) := fun k hk => (((((PB.out k hk).bd.only OC.out (fun g hg => ⟨by omega, by omega⟩)).only OD.out (fun g hg => ⟨by omega, by omega⟩)).only OE.out (fun g hg => ⟨by omega, by omega⟩))).is
  have PYA : Hid (Pays wE B n Y1) := fun k hk => ((((((PA.out k hk).bd.only (Only.of_below (r := w6.heap.size) (q := w6.heap.size + 1) BB.out) (fun g hg => ⟨by omega, by omega⟩)).only OC.out (fun g hg => ⟨by omega, by omega⟩)).only OD.out (fun g hg => ⟨by omega, by omega⟩)).only OE.out (fun g hg => ⟨by omega, by omega⟩))).is
  have QA1 := hideIt (OE.out.cell KD1.out (by show wC.heap.size ≠ wA.heap.size; omega) (by show wC.heap.size ≠ wA.heap.size + 1; omega))
  have QA2 := hideIt (OE.out.cell KD2.out (by show wC.heap.size ≠ wA.heap.size; omega) (by show wC.heap.size ≠ wA.heap.size + 1; omega))
  have IE := hideIt (HIn.out.below (HB6.out.trans (CE.out.mono HB6.out.size)))
  have hplm : ∀ k, k < n → B.pl k ≤ maxLen := fun k hk => by have := (HSm.out k hk).1; unfold maxLen; omega
  have HPM := hideIt hplm
  clear hplm
  go_wp2_with fail
  refine (at_any wA.heap.size (wA.heap.size + 1) n j wD.heap.size b off bc gid B Y2 none 0 0 (fun _ => 0) wE hn (by omega) FB.out PYB.out IE.out (Z2.out.below CE.out) KE1.out KE2.out HPM.out).mono ?_
  rintro e wF ⟨rfl, belF⟩
  have BF := hideIt belF
  clear belF
  go_wp2_with fail
  refine (samerec_any w6.heap.size (w6.heap.size + 1) wA.heap.size (wA.heap.size + 1) n wC.heap.size wD.heap.size gid COMP B Y1 Y2 (statAt B j) (B.br j) (strOf (fun _ => 0) 0) wF hn hnp (FA.out.keep hnp BF.out) (FB.out.keep hnp BF.out) (PYA.out.below BF.out) (PYB.out.below BF.out)
    (by rw [BF.out.cell (block_lt QA1.out)]; exact QA1.out) (by rw [BF.out.cell (block_lt QA2.out)]; exact QA2.out) (by rw [BF.out.cell (block_lt KE1.out)]; exact KE1.out) (by rw [BF.out.cell (block_lt KE2.out)]; exact KE2.out) HPM.out).mono ?_
  rintro e wG ⟨rfl, belG⟩
  have BG := hideIt belG
  clear belG
  go_wp2_with fail
  go_ret
  exact ⟨by simp, HB6.out.trans ((CE.out.trans ((BF.out.mono CE.out.size).trans (BG.out.mono (Nat.le_trans CE.out.size BF.out.size)))).mono HB6.out.size)⟩

set_option maxRecDepth 100000 in
set_option maxHeartbeats 4000000 in
theorem law_some_some (gid st : ByteArray) (b off n bc i j : Nat) (B : Bs) (x1 : Addr) (l1 k1 : Nat) (z1 : Nat → Int) (x2 : Addr) (l2 k2 : Nat) (z2 : Nat → Int) (w : World) (hg : gid.size ≤ maxLen) (hs : st.size ≤ maxLen) (hc : Came w (some ⟨b, off, none⟩) n B) (hin : In w b off n B)
    (hnil : ∀ k, k < n → B.pa k = none → B.pl k = 0 ∧ B.pc k = 0) (hji : j ≤ i) (hi : i < n) (hl1 : l1 ≤ maxLen) (hz1 : BytesAt w (some x1) l1 z1) (hl2 : l2 ≤ maxLen) (hz2 : BytesAt w (some x2) l2 z2) :
    Calls Trym.prog 3 #[.string gid, .string st, .slice (some ⟨b, off, none⟩) n bc, .int .i64 i, .int .i64 j, .slice (some x1) l1 k1, .slice (some x2) l2 k2] w fun e w' => e = .returned (.bool true) ∧ Below w.heap.size w w' := by
  have H4 := hideIt (bytes_any gid st (some ⟨b, off, none⟩) n bc B i j (some x1) (some x2) l1 k1 l2 k2 w hg hs hl1 hl2 hc)
  have HC := hideIt hc
  have HIn := hideIt hin
  have HN := hideIt hnil
  have hn0 := hc.len
  have jj : (j : Int) ≤ (i : Int) := by omega
  have j0 : (0 : Int) ≤ (j : Int) := by omega
  have ii : (i : Int) < (n : Int) := by omega
  unfold maxLen at hg hs hn0 hl1 hl2
  clear hc hin hnil
  have HZ1 := hideIt hz1
  clear hz1
  have HZ2 := hideIt hz2
  clear hz2
  have ne1 := fun w => run_neq_slice_nil_any (P := Trym.prog) w 23 5 (some x1) l1 k1 0 0 Trym.underlying23
  have ne2 := fun w => run_neq_slice_nil_any (P := Trym.prog) w 23 5 (some x2) l2 k2 0 0 Trym.underlying23
  obtain ⟨i0, hi0, hzz0, hzz1, hzz2⟩ := info_parts info5
  go_enter Trym.func3, Trym.ntmps3
  go_wp2_with (first | (go_at_call 4; refine H4.out.mono ?_; rintro e w4 ⟨r4, rfl, hr4, n4, hw4⟩; have HB4 : Hid (Below w.heap.size w w4) := (by rw [hw4]; exact below_drewN (Below.refl _ _) _); clear hw4; have HR4 := hideIt hr4; clear hr4) | (go_at_call 5; have HF := hideIt (HR4.out (by simpa using ‹(!r4) = false›)); refine (ok_any _ n bc B _ w4 (by omega) (by omega) (HC.out.below HB4.out) HF.out.2.1).mono ?_; rintro e w5 ⟨r5, rfl, _, n5, hw5⟩; have HB5 : Hid (Below w.heap.size w w5) := (by rw [hw5]; exact below_drewN HB4.out _); clear hw5) | (at_make; have hl1' := HF.out.2.2.1; refine wpList_make_full _ rfl (.tmp 83) (.tmp 83) 23 rfl w5.heap.size 5 i0 (.int .u8 0) 1 Trym.underlying23 hi0 hzz0 hzz1 .i64 .i64 _ _ l1 rfl rfl rfl rfl (by rw [hzz2]; omega) (by unfold maxLen; omega) (Nat.le_refl _) ?_; intro wa hown hgrow; obtain ⟨w6, hrun6, hg6, hb6⟩ := copied (cap := k1) hown hgrow (HZ1.out.below HB5.out); have HG6 := hideIt hg6; have HB6 := hideIt (HB5.out.trans (hb6.mono HB5.out.size)); clear hg6 hb6 hown hgrow) | (at_make; have hl2' := HF.out.2.2.2; refine wpList_make_full _ rfl (.tmp 92) (.tmp 92) 23 rfl w6.heap.size 5 i0 (.int .u8 0) 1 Trym.underlying23 hi0 hzz0 hzz1 .i64 .i64 _ _ l2 rfl rfl rfl rfl (by rw [hzz2]; omega) (by unfold maxLen; omega) (Nat.le_refl _) ?_; intro wb hown hgrow; obtain ⟨w7, hrun7, hg7, hb7⟩ := copied (cap := k2) hown hgrow (HZ2.out.below HB6.out); have HG7 := hideIt hg7; have HB7 := hideIt (HB6.out.trans (hb7.mono HB6.out.size)); have HK7 := hideIt hb7; clear hg7 hb7 hown hgrow))
  all_goals (try (go_ret; first | exact ⟨rfl, HB4.out⟩ | exact ⟨rfl, HB5.out⟩))
  have hn : n ≤ 1048576 := HF.out.1
  have hnp : 0 < n := by omega
  have HSm := hideIt HF.out.2.1
  have Z1 : Hid (RAt w7 (some ⟨w5.heap.size, 0, none⟩) l1 z1) := (HG6.out.below HK7.out)
  have Z2 : Hid (RAt w7 (some ⟨w6.heap.size, 0, none⟩) l2 z2) := HG7.out
  clear ne1 hi0 hzz0 hzz1 hzz2 H4 ne2 hrun6 HG6 HZ1 hrun7 HG7 HZ2 HK7
  refine (build_any gid st b off n bc B w7 hn hnp (HIn.out.below HB7.out) (fun k hk => (HSm.out k hk).1) HN.out).mono ?_
  rintro e wA ⟨rfl, Y1, recA, payA, belA⟩
  have RA := hideIt recA
  have PA := hideIt payA
  have BA := hideIt belA
  clear recA payA belA
  go_wp2_with fail
  refine (build_any gid st b off n bc B wA hn hnp (HIn.out.below (HB7.out.trans (BA.out.mono HB7.out.size))) (fun k hk => (HSm.out k hk).1) HN.out).mono ?_
  rintro e wB ⟨rfl, Y2, recB, payB, belB⟩
  have RB := hideIt recB
  have PB := hideIt payB
  have BB := hideIt belB
  clear recB payB belB
  have szA : w7.heap.size + 2 ≤ wA.heap.size := by have := block_lt (RA.out.row 0 0 hnp (by omega)); simp only at this; omega
  have szB : wA.heap.size + 2 ≤ wB.heap.size := by have := block_lt (RB.out.row 0 0 hnp (by omega)); simp only at this; omega
  have CB := hideIt (BA.out.trans (BB.out.mono BA.out.size))
  go_wp2_with fail
  refine (refused_any w7.heap.size (w7.heap.size + 1) n i gid st (.pointer none) (fields B Y1 B.st) (some ⟨w5.heap.size, 0, none⟩) l1 l1 z1 wB hn hi (RA.out.keep hnp BB.out) (B.br i) rfl (Z1.out.below CB.out)).mono ?_
  rintro e wC ⟨rfl, recC, cc1, cc2, onlC⟩
  have RC := hideIt recC
  have OC := hideIt onlC
  clear recC cc1 cc2 onlC
  have CC := hideIt (CB.out.trans (OC.out.below (B := w7.heap.size) (by omega) (Nat.le_refl _) (by omega)))
  go_wp2_with fail
  refine (refused_any w7.heap.size (w7.heap.size + 1) n j gid COMP _ _ (some ⟨w6.heap.size, 0, none⟩) l2 l2 z2 wC hn (by omega) RC.out (B.br j) rfl (Z2.out.below CC.out)).mono ?_
  rintro e wD ⟨rfl, recD, cd1, cd2, onlD⟩
  have RD := hideIt recD
  have OD := hideIt onlD
  have KD1 := hideIt cd1
  have KD2 := hideIt cd2
  clear recD cd1 cd2 onlD
  have szC : wB.heap.size ≤ wC.heap.size := OC.out.size
  have szD : wC.heap.size + 1 ≤ wD.heap.size := by have := block_lt KD1.out; simp only at this; omega
  have CD := hideIt (CC.out.trans (OD.out.below (B := w7.heap.size) (by omega) (Nat.le_refl _) (by omega)))
  have RBD := hideIt ((RB.out.only hnp OC.out (by omega) (by omega) (by omega) (by omega)).only hnp OD.out (by omega) (by omega) (by omega) (by omega))
  go_wp2_with fail
  refine (refused_any wA.heap.size (wA.heap.size + 1) n j gid st (.pointer none) (fields B Y2 B.st) (some ⟨w6.heap.size, 0, none⟩) l2 l2 z2 wD hn (by omega) RBD.out (B.br j) rfl (Z2.out.below CD.out)).mono ?_
  rintro e wE ⟨rfl, recE, ce1, ce2, onlE⟩
  have RE := hideIt recE
  have OE := hideIt onlE
  have KE1 := hideIt ce1
  have KE2 := hideIt ce2
  clear recE ce1 ce2 onlE
  have CE := hideIt (CD.out.trans (OE.out.below (B := w7.heap.size) (by omega) (by omega) (by omega)))
  have FB := hideIt (RE.out.congr (fun k f hk _ => turned_one B Y2 j n k f hk))
  have FA := hideIt ((RD.out.only hnp OE.out (by omega) (by omega) (by omega) (by omega)).congr (fun k f hk _ => turned_two B Y1 i j n k f hji hk))
  have PYB : Hid (Pays wE B n Y2) := fun k hk => (((((PB.out k hk).bd.only OC.out (fun g hg => ⟨by omega, by omega⟩)).only OD.out (fun g hg => ⟨by omega, by omega⟩)).only OE.out (fun g hg => ⟨by omega, by omega⟩))).is
  have PYA : Hid (Pays wE B n Y1) := fun k hk => ((((((PA.out k hk).bd.only (Only.of_below (r := w7.heap.size) (q := w7.heap.size + 1) BB.out) (fun g hg => ⟨by omega, by omega⟩)).only OC.out (fun g hg => ⟨by omega, by omega⟩)).only OD.out (fun g hg => ⟨by omega, by omega⟩)).only OE.out (fun g hg => ⟨by omega, by omega⟩))).is
  have QA1 := hideIt (OE.out.cell KD1.out (by show wC.heap.size ≠ wA.heap.size; omega) (by show wC.heap.size ≠ wA.heap.size + 1; omega))
  have QA2 := hideIt (OE.out.cell KD2.out (by show wC.heap.size ≠ wA.heap.size; omega) (by show wC.heap.size ≠ wA.heap.size + 1; omega))
  have IE := hideIt (HIn.out.below (HB7.out.trans (CE.out.mono HB7.out.size)))
  have hplm : ∀ k, k < n → B.pl k ≤ maxLen := fun k hk => by have := (HSm.out k hk).1; unfold maxLen; omega
  have HPM := hideIt hplm
  clear hplm
  go_wp2_with fail
  refine (at_any wA.heap.size (wA.heap.size + 1) n j wD.heap.size b off bc gid B Y2 (some ⟨w6.heap.size, 0, none⟩) l2 l2 z2 wE hn (by omega) FB.out PYB.out IE.out (Z2.out.below CE.out) KE1.out KE2.out HPM.out).mono ?_
  rintro e wF ⟨rfl, belF⟩
  have BF := hideIt belF
  clear belF
  go_wp2_with fail
  refine (samerec_any w7.heap.size (w7.heap.size + 1) wA.heap.size (wA.heap.size + 1) n wC.heap.size wD.heap.size gid COMP B Y1 Y2 (statAt B j) (B.br j) (strOf z2 l2) wF hn hnp (FA.out.keep hnp BF.out) (FB.out.keep hnp BF.out) (PYA.out.below BF.out) (PYB.out.below BF.out)
    (by rw [BF.out.cell (block_lt QA1.out)]; exact QA1.out) (by rw [BF.out.cell (block_lt QA2.out)]; exact QA2.out) (by rw [BF.out.cell (block_lt KE1.out)]; exact KE1.out) (by rw [BF.out.cell (block_lt KE2.out)]; exact KE2.out) HPM.out).mono ?_
  rintro e wG ⟨rfl, belG⟩
  have BG := hideIt belG
  clear belG
  go_wp2_with fail
  go_ret
  exact ⟨by simp, HB7.out.trans ((CE.out.trans ((BF.out.mono CE.out.size).trans (BG.out.mono (Nat.le_trans CE.out.size BF.out.size)))).mono HB7.out.size)⟩
end Go.Proofs.Qxb6614651aMods.sag
