/-
  FnStringEndRefusesRawControl: the walk.
-/
import Derived.Test.Qxb6001341aModsEnc
import Derived.Test.Qxb6001341aModsBytes
import Derived.Test.Qxb6001341aModsPlain5
import Derived.Test.Qxb6001341aModsGiven
namespace Go.Proofs.Qxb6001341aMods
open Go.RowKit
open Pl (strE enc)

set_option maxHeartbeats 2000000 in
set_option maxRecDepth 20000 in
theorem raw_walk (a0 : Option Addr) (n0 c0 : Nat) (xs : List Int) (a1 : Option Addr) (n1 c1 : Nat) (ys : List Int) (c st : Int) (w : World) (h0 : Bs w a0 n0 c0 xs) (h1 : Bs w a1 n1 c1 ys) (hc0 : 0 ≤ c) :
    Calls Trym.prog 4 #[.slice a0 n0 c0, .slice a1 n1 c1, .int .u8 c, .int .u8 st] w fun e w' => e = .returned (.bool true) ∧ Below w.heap.size w w' := by
  by_cases hs : 1048576 < n0 + n1
  · go_enter Trym.func4, Trym.ntmps4
    go_wp2_with (go_at_call 18; refine (bytes18_no _ _ _ _ _ _ _ _ _ hs).mono ?_; rintro e w' ⟨rfl, rfl⟩)
    go_ret
    exact ⟨rfl, Below.refl _ _⟩
  have hs' : n0 + n1 ≤ 1048576 := by omega
  clear hs
  by_cases hx0 : 65536 < n0
  · go_enter Trym.func4, Trym.ntmps4
    go_wp2_with (go_at_call 18; refine (bytes18_yes _ _ _ _ _ _ _ _ _ hs').mono ?_; rintro e w' ⟨rfl, rfl⟩)
    go_ret
    exact ⟨rfl, Below.refl _ _⟩
  by_cases hx1 : 65536 < n1
  · go_enter Trym.func4, Trym.ntmps4
    go_wp2_with (go_at_call 18; refine (bytes18_yes _ _ _ _ _ _ _ _ _ hs').mono ?_; rintro e w' ⟨rfl, rfl⟩)
    go_ret
    exact ⟨rfl, Below.refl _ _⟩
  by_cases hx2 : 32 ≤ c
  · go_enter Trym.func4, Trym.ntmps4
    go_wp2_with (go_at_call 18; refine (bytes18_yes _ _ _ _ _ _ _ _ _ hs').mono ?_; rintro e w' ⟨rfl, rfl⟩)
    go_ret
    exact ⟨rfl, Below.refl _ _⟩
  have hl0 : n0 ≤ 65536 := by omega
  have hl1 : n1 ≤ 65536 := by omega
  have hc1 : c < 32 := by omega
  clear hx0 hx1 hx2
  obtain ⟨s1, E1⟩ : ∃ s, Hid ((bits BinOp.and IntKind.u8 st 1 != 0) = s) := ⟨_, rfl⟩
  obtain ⟨s2, E2⟩ : ∃ s, Hid ((bits BinOp.and IntKind.u8 st 2 != 0) = s) := ⟨_, rfl⟩
  obtain ⟨s4, E4⟩ : ∃ s, Hid ((bits BinOp.and IntKind.u8 st 4 != 0) = s) := ⟨_, rfl⟩
  obtain ⟨F, q, HF, HQ, hq⟩ : ∃ F q, Hid (enc s1 s2 s4 ys = F) ∧ Hid (F.length = q) ∧ q ≤ 393216 := by
    refine ⟨_, _, rfl, rfl, ?_⟩
    have := Pl.enc_le s1 s2 s4 ys
    rw [h1.len] at this; omega
  obtain ⟨E, m, HE, HM, hm, HR⟩ : ∃ E m, Hid (enc s1 s2 s4 xs = E) ∧ Hid (E.length = m) ∧ m ≤ 393216 ∧ Hid (strE ((([34] ++ E) ++ [c]) ++ (F ++ [34])) 1 = (1 + m, false)) := by
    refine ⟨_, _, rfl, rfl, ?_, Pl.ctrl_read s1 s2 s4 xs (F ++ [34]) c h0.byte hc1⟩
    have := Pl.enc_le s1 s2 s4 xs
    rw [h0.len] at this; omega
  go_enter Trym.func4, Trym.ntmps4
  go_wp2_with fail
  refine (bytes18_yes _ _ _ _ _ _ _ _ _ hs').mono ?_
  rintro e w'' ⟨rfl, rfl⟩
  go_wp2_with fail
  refine (zzClone_calls _ _ _ xs _ h0 (by omega)).mono ?_
  rintro e wx1 ⟨ax1, cx1, rfl, hA, hb1⟩
  clear h0
  replace h1 := h1.later hb1
  have hbel := hb1
  clear hb1
  go_wp2_with fail
  refine (zzClone_calls _ _ _ ys _ h1 (by omega)).mono ?_
  rintro e wx2 ⟨ax2, cx2, rfl, hB, hb2⟩
  clear h1
  replace hA := hA.later hb2
  replace hbel := Below.later hbel hb2
  clear hb2
  go_wp2_with fail
  refine (zzEncode_to _ _ _ xs E m _ s1 s2 s4 _ hA (by omega) E1 E2 E4 HE HM).mono ?_
  rintro e wx3 ⟨ax3, cx3, rfl, hE, hb3⟩
  clear hA
  replace hB := hB.later hb3
  replace hbel := Below.later hbel hb3
  clear hb3
  go_wp2_with fail
  refine (zzEncode_to _ _ _ ys F q _ s1 s2 s4 _ hB (by omega) E1 E2 E4 HF HQ).mono ?_
  rintro e wx4 ⟨ax4, cx4, rfl, hF, hb4⟩
  clear hB
  replace hE := hE.later hb4
  replace hbel := Below.later hbel hb4
  clear hb4
  go_wp2_with fail
  refine (zzOne_calls 34 _ (by omega) (by omega)).mono ?_
  rintro e wx5 ⟨ax5, cx5, rfl, hO, hb5⟩
  replace hE := hE.later hb5
  replace hF := hF.later hb5
  replace hbel := Below.later hbel hb5
  clear hb5
  go_wp2_with fail
  refine (zzCat_calls _ _ _ [34] _ _ _ E _ hO hE (by omega) (by omega)).mono ?_
  rintro e wx6 ⟨ax6, cx6, rfl, hG, hb6⟩
  clear hO
  replace hE := hE.later hb6
  replace hF := hF.later hb6
  replace hbel := Below.later hbel hb6
  clear hb6
  go_wp2_with fail
  refine (zzOne_calls c _ hc0 (by omega)).mono ?_
  rintro e wx7 ⟨ax7, cx7, rfl, hO2, hb7⟩
  replace hE := hE.later hb7
  replace hF := hF.later hb7
  replace hG := hG.later hb7
  replace hbel := Below.later hbel hb7
  clear hb7
  go_wp2_with fail
  refine (zzCat_calls _ _ _ ([34] ++ E) _ _ _ [c] _ hG hO2 (by omega) (by omega)).mono ?_
  rintro e wx8 ⟨ax8, cx8, rfl, hH, hb8⟩
  clear hG
  clear hO2
  replace hE := hE.later hb8
  replace hF := hF.later hb8
  replace hbel := Below.later hbel hb8
  clear hb8
  go_wp2_with fail
  refine (zzOne_calls 34 _ (by omega) (by omega)).mono ?_
  rintro e wx9 ⟨ax9, cx9, rfl, hO3, hb9⟩
  replace hE := hE.later hb9
  replace hF := hF.later hb9
  replace hH := hH.later hb9
  replace hbel := Below.later hbel hb9
  clear hb9
  go_wp2_with fail
  refine (zzCat_calls _ _ _ F _ _ _ [34] _ hF hO3 (by omega) (by omega)).mono ?_
  rintro e wx10 ⟨ax10, cx10, rfl, hI, hb10⟩
  clear hF
  clear hO3
  replace hE := hE.later hb10
  replace hH := hH.later hb10
  replace hbel := Below.later hbel hb10
  clear hb10
  go_wp2_with fail
  refine (zzCat_calls _ _ _ (([34] ++ E) ++ [c]) _ _ _ (F ++ [34]) _ hH hI (by omega) (by omega)).mono ?_
  rintro e wx11 ⟨ax11, cx11, rfl, hJ, hb11⟩
  clear hH
  clear hI
  replace hE := hE.later hb11
  replace hbel := Below.later hbel hb11
  clear hb11
  go_wp2_with fail
  refine (ZZstringEnd_calls hJ _ 1 (1 + m) false (by omega) rfl HR).mono ?_
  rintro e w'' ⟨rfl, rfl⟩
  go_wp2_with fail
  go_ret
  exact ⟨rfl, hbel⟩

end Go.Proofs.Qxb6001341aMods
