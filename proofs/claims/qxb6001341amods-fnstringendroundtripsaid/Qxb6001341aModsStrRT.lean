/-
  FnStringEndRoundTrip: the walk.
-/
import Derived.Test.Qxb6001341aModsEnc
import Derived.Test.Qxb6001341aModsBytes
import Derived.Test.Qxb6001341aModsPlain3
import Derived.Test.Qxb6001341aModsGiven
namespace Go.Proofs.Qxb6001341aMods
open Go.RowKit
open Pl (strE strN enc bump)

/-- What is written, read: with its closing quote, and without. -/
theorem closed_read (s1 s2 s4 : Bool) (xs ys : List Int) (hx : ∀ z ∈ xs, 0 ≤ z ∧ z ≤ 255) : strE ((([34] ++ enc s1 s2 s4 xs) ++ [34]) ++ ys) 1 = ((enc s1 s2 s4 xs).length + 2, true) := by
  have h := Pl.strE_pre [34] (enc s1 s2 s4 xs ++ ([34] ++ ys)) 0
  have e : (([34] ++ enc s1 s2 s4 xs) ++ [34]) ++ ys = [34] ++ (enc s1 s2 s4 xs ++ ([34] ++ ys)) := by simp
  rw [e]
  rw [show ([34] : List Int).length + 0 = 1 from rfl] at h
  rw [h]
  unfold strE
  rw [List.drop_zero, Pl.strN_enc s1 s2 s4 xs hx]
  have q : strN ([34] ++ ys) = (1, true) := by rw [List.singleton_append, strN.eq_def]; rfl
  rw [q]; simp [bump]; omega
theorem open_read (s1 s2 s4 : Bool) (xs : List Int) (hx : ∀ z ∈ xs, 0 ≤ z ∧ z ≤ 255) : strE ([34] ++ enc s1 s2 s4 xs) 1 = (1 + (enc s1 s2 s4 xs).length, false) := by
  have h := Pl.strE_pre [34] (enc s1 s2 s4 xs ++ []) 0
  rw [show ([34] : List Int).length + 0 = 1 from rfl, List.append_nil] at h
  rw [h]
  unfold strE
  have k := Pl.strN_enc s1 s2 s4 xs hx []
  rw [List.append_nil] at k
  rw [List.drop_zero, k]; simp [bump, strN]

set_option maxHeartbeats 2000000 in
set_option maxRecDepth 20000 in
theorem strRT_walk (a0 : Option Addr) (n0 c0 : Nat) (xs : List Int) (st : Int) (a1 : Option Addr) (n1 c1 : Nat) (ys : List Int) (w : World) (h0 : Bs w a0 n0 c0 xs) (h1 : Bs w a1 n1 c1 ys) :
    Calls Trym.prog 3 #[.slice a0 n0 c0, .int .u8 st, .slice a1 n1 c1] w fun e w' => e = .returned (.bool true) ∧ Below w.heap.size w w' := by
  by_cases hs : 1048576 < n0 + n1
  · go_enter Trym.func3, Trym.ntmps3
    go_wp2_with (go_at_call 12; refine (bytes12_no _ _ _ _ _ _ _ _ hs).mono ?_; rintro e w' ⟨rfl, rfl⟩)
    go_ret
    exact ⟨rfl, Below.refl _ _⟩
  have hs' : n0 + n1 ≤ 1048576 := by omega
  clear hs
  by_cases hx0 : 65536 < n0
  · go_enter Trym.func3, Trym.ntmps3
    go_wp2_with (go_at_call 12; refine (bytes12_yes _ _ _ _ _ _ _ _ hs').mono ?_; rintro e w' ⟨rfl, rfl⟩)
    go_ret
    exact ⟨rfl, Below.refl _ _⟩
  by_cases hx1 : 65536 < n1
  · go_enter Trym.func3, Trym.ntmps3
    go_wp2_with (go_at_call 12; refine (bytes12_yes _ _ _ _ _ _ _ _ hs').mono ?_; rintro e w' ⟨rfl, rfl⟩)
    go_ret
    exact ⟨rfl, Below.refl _ _⟩
  have hl0 : n0 ≤ 65536 := by omega
  have hl1 : n1 ≤ 65536 := by omega
  clear hx0 hx1
  obtain ⟨s1, E1⟩ : ∃ s, Hid ((bits BinOp.and IntKind.u8 st 1 != 0) = s) := ⟨_, rfl⟩
  obtain ⟨s2, E2⟩ : ∃ s, Hid ((bits BinOp.and IntKind.u8 st 2 != 0) = s) := ⟨_, rfl⟩
  obtain ⟨s4, E4⟩ : ∃ s, Hid ((bits BinOp.and IntKind.u8 st 4 != 0) = s) := ⟨_, rfl⟩
  obtain ⟨E, m, HE, HM, hm, HR, HS⟩ : ∃ E m, Hid (enc s1 s2 s4 xs = E) ∧ Hid (E.length = m) ∧ m ≤ 393216 ∧ Hid (strE ((([34] ++ E) ++ [34]) ++ ys) 1 = (m + 2, true)) ∧ Hid (strE ([34] ++ E) 1 = (1 + m, false)) := by
    refine ⟨_, _, rfl, rfl, ?_, closed_read s1 s2 s4 xs ys h0.byte, open_read s1 s2 s4 xs h0.byte⟩
    have := Pl.enc_le s1 s2 s4 xs
    rw [h0.len] at this; omega
  go_enter Trym.func3, Trym.ntmps3
  go_wp2_with fail
  refine (bytes12_yes _ _ _ _ _ _ _ _ hs').mono ?_
  rintro e w' ⟨rfl, rfl⟩
  go_wp2_with fail
  refine (zzClone_calls _ _ _ xs _ h0 (by omega)).mono ?_
  rintro e wA ⟨a2, c2, rfl, hA, hbA⟩
  go_wp2_with fail
  refine (zzClone_calls _ _ _ ys _ (h1.later hbA) (by omega)).mono ?_
  rintro e wB ⟨a3, c3, rfl, hB, hbB⟩
  have hA' := hA.later hbB
  have hbel := Below.later hbA hbB
  clear hA hbA hbB
  go_wp2_with fail
  refine (zzEncode_to _ _ _ xs E m _ s1 s2 s4 _ hA' (by omega) E1 E2 E4 HE HM).mono ?_
  rintro e wC ⟨a4, c4, rfl, hC, hbC⟩
  have hB' := hB.later hbC
  have hbel' := Below.later hbel hbC
  clear hA' hB hbC hbel
  go_wp2_with fail
  refine (zzOne_calls 34 _ (by omega) (by omega)).mono ?_
  rintro e wD ⟨a5, c5, rfl, hD, hbD⟩
  have hB := hB'.later hbD
  have hC' := hC.later hbD
  have hbel := Below.later hbel' hbD
  clear hB' hC hbD hbel'
  go_wp2_with fail
  refine (zzCat_calls _ _ _ [34] _ _ _ E _ hD hC' (by omega) (by omega)).mono ?_
  rintro e wE ⟨a6, c6, rfl, hO, hbE⟩
  have hB' := hB.later hbE
  have hbel' := Below.later hbel hbE
  clear hB hC' hbE hbel hD
  go_wp2_with fail
  refine (zzOne_calls 34 _ (by omega) (by omega)).mono ?_
  rintro e wF ⟨a7, c7, rfl, hQ, hbF⟩
  have hB := hB'.later hbF
  have hO' := hO.later hbF
  have hbel := Below.later hbel' hbF
  clear hB' hO hbF hbel'
  go_wp2_with fail
  refine (zzCat_calls _ _ _ ([34] ++ E) _ _ _ [34] _ hO' hQ (by omega) (by omega)).mono ?_
  rintro e wG ⟨a8, c8, rfl, hG, hbG⟩
  have hB' := hB.later hbG
  have hO := hO'.later hbG
  have hbel' := Below.later hbel hbG
  clear hB hO' hbG hbel hQ
  go_wp2_with fail
  refine (zzCat_calls _ _ _ (([34] ++ E) ++ [34]) _ _ _ ys _ hG hB' (by omega) (by omega)).mono ?_
  rintro e wH ⟨a9, c9, rfl, hH, hbH⟩
  have hO' := hO.later hbH
  have hbel := Below.later hbel' hbH
  clear hB' hO hbH hbel' hG
  go_wp2_with fail
  refine (ZZstringEnd_calls hH _ 1 (m + 2) true (by omega) rfl HR).mono ?_
  rintro e w'' ⟨rfl, rfl⟩
  go_wp2_with fail
  refine (ZZstringEnd_calls hO' _ 1 (1 + m) false (by omega) rfl HS).mono ?_
  rintro e w'' ⟨rfl, rfl⟩
  go_wp2_with fail
  go_ret
  exact ⟨rfl, hbel⟩

end Go.Proofs.Qxb6001341aMods
