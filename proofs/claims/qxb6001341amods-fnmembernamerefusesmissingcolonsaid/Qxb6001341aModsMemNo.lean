/-
  FnMemberNameRefusesMissingColon: the walk.
-/
import Derived.Test.Qxb6001341aModsEnc
import Derived.Test.Qxb6001341aModsSpace
import Derived.Test.Qxb6001341aModsPlain5
import Derived.Test.Qxb6001341aModsGiven
namespace Go.Proofs.Qxb6001341aMods
open Go.RowKit
open Pl (memE enc spB)

theorem spaces_off {l : List Int} (h : l.all spB = true) : ∀ z ∈ l, spB z = true := List.all_eq_true.1 h

theorem head_of {R : List Int} {c : Int} (h : 0 < R.length) (hk : R.getD 0 0 = c) : R = c :: R.tail := by
  cases R with
  | nil => simp at h
  | cons d r => simp at hk; subst hk; rfl

set_option maxHeartbeats 2000000 in
set_option maxRecDepth 20000 in
theorem memNo_empty (a0 : Option Addr) (n0 c0 : Nat) (W1 : List Int) (a1 : Option Addr) (n1 c1 : Nat) (W2 : List Int) (a2 : Option Addr) (n2 c2 : Nat) (xs : List Int) (st : Int) (a4 : Option Addr) (n4 c4 : Nat) (R : List Int) (w : World)
    (h0 : Bs w a0 n0 c0 W1) (h1 : Bs w a1 n1 c1 W2) (h2 : Bs w a2 n2 c2 xs) (h4 : Bs w a4 n4 c4 R) (hs' : n0 + n1 + n2 + n4 ≤ 1048576) (hl0 : n0 ≤ 65536) (hl1 : n1 ≤ 65536) (hl2 : n2 ≤ 65536) (hl4 : n4 ≤ 65536)
    (HP1 : Hid (W1.all spB = true)) (HP2 : Hid (W2.all spB = true)) (HR0 : Hid (Pl.spN R = 0)) (HR1 : Hid (Pl.at? R 0 58 = false)) (hz4 : n4 = 0) :
    Calls Trym.prog 8 #[.slice a0 n0 c0, .slice a1 n1 c1, .slice a2 n2 c2, .int .u8 st, .slice a4 n4 c4] w fun e w' => e = .returned (.bool true) ∧ Below w.heap.size w w' := by
  subst hz4
  obtain ⟨s1, E1⟩ : ∃ s, Hid ((bits BinOp.and IntKind.u8 st 1 != 0) = s) := ⟨_, rfl⟩
  obtain ⟨s2, E2⟩ : ∃ s, Hid ((bits BinOp.and IntKind.u8 st 2 != 0) = s) := ⟨_, rfl⟩
  obtain ⟨s4, E4⟩ : ∃ s, Hid ((bits BinOp.and IntKind.u8 st 4 != 0) = s) := ⟨_, rfl⟩
  obtain ⟨E, m, HE, HM, hm, HR⟩ : ∃ E m, Hid (enc s1 s2 s4 xs = E) ∧ Hid (E.length = m) ∧ m ≤ 393216 ∧ Hid (memE ((((W1 ++ [34]) ++ E) ++ ([34] ++ W2)) ++ R) 0 = (n0 + m + n1 + 2, false)) := by
    refine ⟨_, _, rfl, rfl, ?_, ?_⟩
    · have := Pl.enc_le s1 s2 s4 xs
      rw [h2.len] at this; omega
    · have := Pl.nocolon_read s1 s2 s4 W1 W2 xs R h2.byte (spaces_off HP1.out) (spaces_off HP2.out) HR0.out HR1.out
      rw [h0.len, h1.len] at this; exact this
  go_enter Trym.func8, Trym.ntmps8
  go_wp2_with fail
  refine (bytes27_yes _ _ _ _ _ _ _ _ _ _ _ _ _ _ hs').mono ?_
  rintro e w'' ⟨rfl, rfl⟩
  go_wp2_with fail
  refine (zzAllSpace_calls h0 true HP1).mono ?_
  rintro e w'' ⟨rfl, rfl⟩
  go_wp2_with fail
  refine (zzAllSpace_calls h1 true HP2).mono ?_
  rintro e w'' ⟨rfl, rfl⟩
  go_wp2_with fail
  refine (zzClone_calls _ _ _ W1 _ h0 (by omega)).mono ?_
  rintro e wx1 ⟨ax1, cx1, rfl, hA, hb1⟩
  clear h0
  replace h1 := h1.later hb1
  replace h2 := h2.later hb1
  replace h4 := h4.later hb1
  have hbel := hb1
  clear hb1
  go_wp2_with fail
  refine (zzClone_calls _ _ _ W2 _ h1 (by omega)).mono ?_
  rintro e wx2 ⟨ax2, cx2, rfl, hB, hb2⟩
  clear h1
  replace h2 := h2.later hb2
  replace h4 := h4.later hb2
  replace hA := hA.later hb2
  replace hbel := Below.later hbel hb2
  clear hb2
  go_wp2_with fail
  refine (zzClone_calls _ _ _ xs _ h2 (by omega)).mono ?_
  rintro e wx3 ⟨ax3, cx3, rfl, hC, hb3⟩
  clear h2
  replace h4 := h4.later hb3
  replace hA := hA.later hb3
  replace hB := hB.later hb3
  replace hbel := Below.later hbel hb3
  clear hb3
  go_wp2_with fail
  refine (zzClone_calls _ _ _ R _ h4 (by omega)).mono ?_
  rintro e wx4 ⟨ax4, cx4, rfl, hD, hb4⟩
  clear h4
  replace hA := hA.later hb4
  replace hB := hB.later hb4
  replace hC := hC.later hb4
  replace hbel := Below.later hbel hb4
  clear hb4
  go_wp2_with fail
  refine (zzEncode_to _ _ _ xs E m _ s1 s2 s4 _ hC (by omega) E1 E2 E4 HE HM).mono ?_
  rintro e wx5 ⟨ax5, cx5, rfl, hE, hb5⟩
  clear hC
  replace hA := hA.later hb5
  replace hB := hB.later hb5
  replace hD := hD.later hb5
  replace hbel := Below.later hbel hb5
  clear hb5
  go_wp2_with fail
  refine (zzOne_calls 34 _ (by omega) (by omega)).mono ?_
  rintro e wx6 ⟨ax6, cx6, rfl, hO, hb6⟩
  replace hA := hA.later hb6
  replace hB := hB.later hb6
  replace hD := hD.later hb6
  replace hE := hE.later hb6
  replace hbel := Below.later hbel hb6
  clear hb6
  go_wp2_with fail
  refine (zzCat_calls _ _ _ W1 _ _ _ [34] _ hA hO (by omega) (by omega)).mono ?_
  rintro e wx7 ⟨ax7, cx7, rfl, hG, hb7⟩
  clear hA
  clear hO
  replace hB := hB.later hb7
  replace hD := hD.later hb7
  replace hE := hE.later hb7
  replace hbel := Below.later hbel hb7
  clear hb7
  go_wp2_with fail
  refine (zzCat_calls _ _ _ (W1 ++ [34]) _ _ _ E _ hG hE (by omega) (by omega)).mono ?_
  rintro e wx8 ⟨ax8, cx8, rfl, hH, hb8⟩
  clear hG
  clear hE
  replace hB := hB.later hb8
  replace hD := hD.later hb8
  replace hbel := Below.later hbel hb8
  clear hb8
  go_wp2_with fail
  refine (zzOne_calls 34 _ (by omega) (by omega)).mono ?_
  rintro e wx9 ⟨ax9, cx9, rfl, hO2, hb9⟩
  replace hB := hB.later hb9
  replace hD := hD.later hb9
  replace hH := hH.later hb9
  replace hbel := Below.later hbel hb9
  clear hb9
  go_wp2_with fail
  refine (zzCat_calls _ _ _ [34] _ _ _ W2 _ hO2 hB (by omega) (by omega)).mono ?_
  rintro e wx10 ⟨ax10, cx10, rfl, hI, hb10⟩
  clear hO2
  clear hB
  replace hD := hD.later hb10
  replace hH := hH.later hb10
  replace hbel := Below.later hbel hb10
  clear hb10
  go_wp2_with fail
  refine (zzCat_calls _ _ _ ((W1 ++ [34]) ++ E) _ _ _ ([34] ++ W2) _ hH hI (by omega) (by omega)).mono ?_
  rintro e wx11 ⟨ax11, cx11, rfl, hK, hb11⟩
  clear hH
  clear hI
  replace hD := hD.later hb11
  replace hbel := Below.later hbel hb11
  clear hb11
  go_wp2_with fail
  refine (zzCat_calls _ _ _ (((W1 ++ [34]) ++ E) ++ ([34] ++ W2)) _ _ _ R _ hK hD (by omega) (by omega)).mono ?_
  rintro e wx12 ⟨ax12, cx12, rfl, hL, hb12⟩
  clear hK
  clear hD
  replace hbel := Below.later hbel hb12
  clear hb12
  go_wp2_with fail
  refine (ZZmemberName_calls hL _ 0 (n0 + m + n1 + 2) false (by omega) rfl HR).mono ?_
  rintro e w'' ⟨rfl, rfl⟩
  go_wp2_with fail
  go_ret
  exact ⟨ret_bool (beq_iff_eq.2 (by omega)).symm, hbel⟩

set_option maxHeartbeats 2000000 in
set_option maxRecDepth 20000 in
theorem memNo_full (a0 : Option Addr) (n0 c0 : Nat) (W1 : List Int) (a1 : Option Addr) (n1 c1 : Nat) (W2 : List Int) (a2 : Option Addr) (n2 c2 : Nat) (xs : List Int) (st : Int) (a4 : Option Addr) (n4 c4 : Nat) (R : List Int) (w : World)
    (h0 : Bs w a0 n0 c0 W1) (h1 : Bs w a1 n1 c1 W2) (h2 : Bs w a2 n2 c2 xs) (h4 : Bs w a4 n4 c4 R) (hs' : n0 + n1 + n2 + n4 ≤ 1048576) (hl0 : n0 ≤ 65536) (hl1 : n1 ≤ 65536) (hl2 : n2 ≤ 65536) (hl4 : n4 ≤ 65536)
    (HP1 : Hid (W1.all spB = true)) (HP2 : Hid (W2.all spB = true)) (HR0 : Hid (Pl.spN R = 0)) (HR1 : Hid (Pl.at? R 0 58 = false)) (b off : Nat) (c : Int) (ha : a4 = some ⟨b, off, none⟩) (hn4 : 0 < n4) (hcell : w.cell? ⟨b, off, none⟩ = some (.int .u8 c)) (hsp : spB c = false) (h58 : (c == 58) = false) :
    Calls Trym.prog 8 #[.slice a0 n0 c0, .slice a1 n1 c1, .slice a2 n2 c2, .int .u8 st, .slice a4 n4 c4] w fun e w' => e = .returned (.bool true) ∧ Below w.heap.size w w' := by
  subst ha
  obtain ⟨s1, E1⟩ : ∃ s, Hid ((bits BinOp.and IntKind.u8 st 1 != 0) = s) := ⟨_, rfl⟩
  obtain ⟨s2, E2⟩ : ∃ s, Hid ((bits BinOp.and IntKind.u8 st 2 != 0) = s) := ⟨_, rfl⟩
  obtain ⟨s4, E4⟩ : ∃ s, Hid ((bits BinOp.and IntKind.u8 st 4 != 0) = s) := ⟨_, rfl⟩
  obtain ⟨E, m, HE, HM, hm, HR⟩ : ∃ E m, Hid (enc s1 s2 s4 xs = E) ∧ Hid (E.length = m) ∧ m ≤ 393216 ∧ Hid (memE ((((W1 ++ [34]) ++ E) ++ ([34] ++ W2)) ++ R) 0 = (n0 + m + n1 + 2, false)) := by
    refine ⟨_, _, rfl, rfl, ?_, ?_⟩
    · have := Pl.enc_le s1 s2 s4 xs
      rw [h2.len] at this; omega
    · have := Pl.nocolon_read s1 s2 s4 W1 W2 xs R h2.byte (spaces_off HP1.out) (spaces_off HP2.out) HR0.out HR1.out
      rw [h0.len, h1.len] at this; exact this
  go_enter Trym.func8, Trym.ntmps8
  go_wp2_with fail
  refine (bytes27_yes _ _ _ _ _ _ _ _ _ _ _ _ _ _ hs').mono ?_
  rintro e w'' ⟨rfl, rfl⟩
  go_wp2_with fail
  refine (zzAllSpace_calls h0 true HP1).mono ?_
  rintro e w'' ⟨rfl, rfl⟩
  go_wp2_with fail
  refine (zzAllSpace_calls h1 true HP2).mono ?_
  rintro e w'' ⟨rfl, rfl⟩
  go_wp2_with fail
  refine (zzIsSpace_calls c _).mono ?_
  rintro e w'' ⟨rfl, rfl⟩
  go_wp2_with fail
  refine (zzClone_calls _ _ _ W1 _ h0 (by omega)).mono ?_
  rintro e wx1 ⟨ax1, cx1, rfl, hA, hb1⟩
  clear h0
  replace h1 := h1.later hb1
  replace h2 := h2.later hb1
  replace h4 := h4.later hb1
  have hbel := hb1
  clear hb1
  go_wp2_with fail
  refine (zzClone_calls _ _ _ W2 _ h1 (by omega)).mono ?_
  rintro e wx2 ⟨ax2, cx2, rfl, hB, hb2⟩
  clear h1
  replace h2 := h2.later hb2
  replace h4 := h4.later hb2
  replace hA := hA.later hb2
  replace hbel := Below.later hbel hb2
  clear hb2
  go_wp2_with fail
  refine (zzClone_calls _ _ _ xs _ h2 (by omega)).mono ?_
  rintro e wx3 ⟨ax3, cx3, rfl, hC, hb3⟩
  clear h2
  replace h4 := h4.later hb3
  replace hA := hA.later hb3
  replace hB := hB.later hb3
  replace hbel := Below.later hbel hb3
  clear hb3
  go_wp2_with fail
  refine (zzClone_calls _ _ _ R _ h4 (by omega)).mono ?_
  rintro e wx4 ⟨ax4, cx4, rfl, hD, hb4⟩
  clear h4
  replace hA := hA.later hb4
  replace hB := hB.later hb4
  replace hC := hC.later hb4
  replace hbel := Below.later hbel hb4
  clear hb4
  go_wp2_with fail
  refine (zzEncode_to _ _ _ xs E m _ s1 s2 s4 _ hC (by omega) E1 E2 E4 HE HM).mono ?_
  rintro e wx5 ⟨ax5, cx5, rfl, hE, hb5⟩
  clear hC
  replace hA := hA.later hb5
  replace hB := hB.later hb5
  replace hD := hD.later hb5
  replace hbel := Below.later hbel hb5
  clear hb5
  go_wp2_with fail
  refine (zzOne_calls 34 _ (by omega) (by omega)).mono ?_
  rintro e wx6 ⟨ax6, cx6, rfl, hO, hb6⟩
  replace hA := hA.later hb6
  replace hB := hB.later hb6
  replace hD := hD.later hb6
  replace hE := hE.later hb6
  replace hbel := Below.later hbel hb6
  clear hb6
  go_wp2_with fail
  refine (zzCat_calls _ _ _ W1 _ _ _ [34] _ hA hO (by omega) (by omega)).mono ?_
  rintro e wx7 ⟨ax7, cx7, rfl, hG, hb7⟩
  clear hA
  clear hO
  replace hB := hB.later hb7
  replace hD := hD.later hb7
  replace hE := hE.later hb7
  replace hbel := Below.later hbel hb7
  clear hb7
  go_wp2_with fail
  refine (zzCat_calls _ _ _ (W1 ++ [34]) _ _ _ E _ hG hE (by omega) (by omega)).mono ?_
  rintro e wx8 ⟨ax8, cx8, rfl, hH, hb8⟩
  clear hG
  clear hE
  replace hB := hB.later hb8
  replace hD := hD.later hb8
  replace hbel := Below.later hbel hb8
  clear hb8
  go_wp2_with fail
  refine (zzOne_calls 34 _ (by omega) (by omega)).mono ?_
  rintro e wx9 ⟨ax9, cx9, rfl, hO2, hb9⟩
  replace hB := hB.later hb9
  replace hD := hD.later hb9
  replace hH := hH.later hb9
  replace hbel := Below.later hbel hb9
  clear hb9
  go_wp2_with fail
  refine (zzCat_calls _ _ _ [34] _ _ _ W2 _ hO2 hB (by omega) (by omega)).mono ?_
  rintro e wx10 ⟨ax10, cx10, rfl, hI, hb10⟩
  clear hO2
  clear hB
  replace hD := hD.later hb10
  replace hH := hH.later hb10
  replace hbel := Below.later hbel hb10
  clear hb10
  go_wp2_with fail
  refine (zzCat_calls _ _ _ ((W1 ++ [34]) ++ E) _ _ _ ([34] ++ W2) _ hH hI (by omega) (by omega)).mono ?_
  rintro e wx11 ⟨ax11, cx11, rfl, hK, hb11⟩
  clear hH
  clear hI
  replace hD := hD.later hb11
  replace hbel := Below.later hbel hb11
  clear hb11
  go_wp2_with fail
  refine (zzCat_calls _ _ _ (((W1 ++ [34]) ++ E) ++ ([34] ++ W2)) _ _ _ R _ hK hD (by omega) (by omega)).mono ?_
  rintro e wx12 ⟨ax12, cx12, rfl, hL, hb12⟩
  clear hK
  clear hD
  replace hbel := Below.later hbel hb12
  clear hb12
  go_wp2_with fail
  refine (ZZmemberName_calls hL _ 0 (n0 + m + n1 + 2) false (by omega) rfl HR).mono ?_
  rintro e w'' ⟨rfl, rfl⟩
  go_wp2_with fail
  go_ret
  exact ⟨ret_bool (beq_iff_eq.2 (by omega)).symm, hbel⟩

set_option maxHeartbeats 2000000 in
set_option maxRecDepth 20000 in
theorem memNo_walk (a0 : Option Addr) (n0 c0 : Nat) (W1 : List Int) (a1 : Option Addr) (n1 c1 : Nat) (W2 : List Int) (a2 : Option Addr) (n2 c2 : Nat) (xs : List Int) (st : Int) (a4 : Option Addr) (n4 c4 : Nat) (R : List Int) (w : World)
    (h0 : Bs w a0 n0 c0 W1) (h1 : Bs w a1 n1 c1 W2) (h2 : Bs w a2 n2 c2 xs) (h4 : Bs w a4 n4 c4 R) :
    Calls Trym.prog 8 #[.slice a0 n0 c0, .slice a1 n1 c1, .slice a2 n2 c2, .int .u8 st, .slice a4 n4 c4] w fun e w' => e = .returned (.bool true) ∧ Below w.heap.size w w' := by
  by_cases hs : 1048576 < n0 + n1 + n2 + n4
  · go_enter Trym.func8, Trym.ntmps8
    go_wp2_with (first | (go_at_call 27; refine (bytes27_no _ _ _ _ _ _ _ _ _ _ _ _ _ _ hs).mono ?_; rintro e w' ⟨rfl, rfl⟩))
    go_ret
    exact ⟨rfl, Below.refl _ _⟩
  have hs' : n0 + n1 + n2 + n4 ≤ 1048576 := by omega
  clear hs
  by_cases hxn0 : 65536 < n0
  · go_enter Trym.func8, Trym.ntmps8
    go_wp2_with (first | (go_at_call 27; refine (bytes27_yes _ _ _ _ _ _ _ _ _ _ _ _ _ _ hs').mono ?_; rintro e w' ⟨rfl, rfl⟩))
    go_ret
    exact ⟨rfl, Below.refl _ _⟩
  by_cases hxn1 : 65536 < n1
  · go_enter Trym.func8, Trym.ntmps8
    go_wp2_with (first | (go_at_call 27; refine (bytes27_yes _ _ _ _ _ _ _ _ _ _ _ _ _ _ hs').mono ?_; rintro e w' ⟨rfl, rfl⟩))
    go_ret
    exact ⟨rfl, Below.refl _ _⟩
  by_cases hxn2 : 65536 < n2
  · go_enter Trym.func8, Trym.ntmps8
    go_wp2_with (first | (go_at_call 27; refine (bytes27_yes _ _ _ _ _ _ _ _ _ _ _ _ _ _ hs').mono ?_; rintro e w' ⟨rfl, rfl⟩))
    go_ret
    exact ⟨rfl, Below.refl _ _⟩
  by_cases hxn4 : 65536 < n4
  · go_enter Trym.func8, Trym.ntmps8
    go_wp2_with (first | (go_at_call 27; refine (bytes27_yes _ _ _ _ _ _ _ _ _ _ _ _ _ _ hs').mono ?_; rintro e w' ⟨rfl, rfl⟩))
    go_ret
    exact ⟨rfl, Below.refl _ _⟩
  have hl0 : n0 ≤ 65536 := by omega
  have hl1 : n1 ≤ 65536 := by omega
  have hl2 : n2 ≤ 65536 := by omega
  have hl4 : n4 ≤ 65536 := by omega
  clear hxn0 hxn1 hxn2 hxn4
  obtain ⟨p1, HP1⟩ : ∃ p, Hid (W1.all spB = p) := ⟨_, rfl⟩
  obtain ⟨p2, HP2⟩ : ∃ p, Hid (W2.all spB = p) := ⟨_, rfl⟩
  cases p1
  · go_enter Trym.func8, Trym.ntmps8
    go_wp2_with (first | (go_at_call 27; refine (bytes27_yes _ _ _ _ _ _ _ _ _ _ _ _ _ _ hs').mono ?_; rintro e w' ⟨rfl, rfl⟩) | (go_at_call 25; refine (zzAllSpace_calls h0 false HP1).mono ?_; rintro e w' ⟨rfl, rfl⟩))
    go_ret
    exact ⟨rfl, Below.refl _ _⟩
  cases p2
  · go_enter Trym.func8, Trym.ntmps8
    go_wp2_with fail
    refine (bytes27_yes _ _ _ _ _ _ _ _ _ _ _ _ _ _ hs').mono ?_
    rintro e w' ⟨rfl, rfl⟩
    go_wp2_with fail
    refine (zzAllSpace_calls h0 true HP1).mono ?_
    rintro e w' ⟨rfl, rfl⟩
    go_wp2_with fail
    refine (zzAllSpace_calls h1 false HP2).mono ?_
    rintro e w' ⟨rfl, rfl⟩
    go_wp2_with fail
    go_ret
    exact ⟨rfl, Below.refl _ _⟩
  have hl1' : n1 ≤ 65536 := hl1
  by_cases hz4 : n4 = 0
  · have hR : R = [] := List.eq_nil_of_length_eq_zero (by rw [h4.len]; exact hz4)
    exact memNo_empty a0 n0 c0 W1 a1 n1 c1 W2 a2 n2 c2 xs st a4 n4 c4 R w h0 h1 h2 h4 hs' hl0 hl1' hl2 hl4 HP1 HP2 (by subst hR; rfl) (by subst hR; rfl) hz4
  have hn4 : 0 < n4 := by omega
  obtain ⟨b, off, rfl, HC⟩ := h4.at hn4
  obtain ⟨c, HK, hck⟩ := byteAt (k := 0) HC hn4
  rw [Nat.add_zero] at hck
  have hRc : R = c :: R.tail := head_of (by rw [h4.len]; exact hn4) HK.out
  cases hsp : spB c
  · by_cases h58 : c = 58
    · subst h58
      clear HC HK hRc
      go_enter Trym.func8, Trym.ntmps8
      go_wp2_with fail
      refine (bytes27_yes _ _ _ _ _ _ _ _ _ _ _ _ _ _ hs').mono ?_
      rintro e w' ⟨rfl, rfl⟩
      go_wp2_with fail
      refine (zzAllSpace_calls h0 true HP1).mono ?_
      rintro e w' ⟨rfl, rfl⟩
      go_wp2_with fail
      refine (zzAllSpace_calls h1 true HP2).mono ?_
      rintro e w' ⟨rfl, rfl⟩
      go_wp2_with fail
      refine (zzIsSpace_calls _ _).mono ?_
      rintro e w' ⟨rfl, rfl⟩
      go_wp2_with fail
      go_ret
      exact ⟨rfl, Below.refl _ _⟩
    · have q58 : (c == 58) = false := beq_eq_false_iff_ne.2 h58
      exact memNo_full a0 n0 c0 W1 a1 n1 c1 W2 a2 n2 c2 xs st _ n4 c4 R w h0 h1 h2 h4 hs' hl0 hl1' hl2 hl4 HP1 HP2 (by show _ = _; rw [hRc, Pl.spN, hsp]; rfl) (by show _ = _; rw [hRc]; simp [Pl.at?, h58]) b off c rfl hn4 hck hsp q58
  · clear HC HK hRc
    go_enter Trym.func8, Trym.ntmps8
    go_wp2_with fail
    refine (bytes27_yes _ _ _ _ _ _ _ _ _ _ _ _ _ _ hs').mono ?_
    rintro e w' ⟨rfl, rfl⟩
    go_wp2_with fail
    refine (zzAllSpace_calls h0 true HP1).mono ?_
    rintro e w' ⟨rfl, rfl⟩
    go_wp2_with fail
    refine (zzAllSpace_calls h1 true HP2).mono ?_
    rintro e w' ⟨rfl, rfl⟩
    go_wp2_with fail
    refine (zzIsSpace_calls _ _).mono ?_
    rintro e w' ⟨rfl, rfl⟩
    go_wp2_with fail
    go_ret
    exact ⟨rfl, Below.refl _ _⟩

end Go.Proofs.Qxb6001341aMods
