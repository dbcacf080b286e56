/-
  FnNumberEndShape: the walk, every way.
-/
import Derived.Test.Qxb6001341aModsShape
namespace Go.Proofs.Qxb6001341aMods
open Go.RowKit
open Pl (numE)

set_option maxHeartbeats 1000000 in
set_option maxRecDepth 20000 in
theorem shape_walk (a0 : Option Addr) (n0 c0 : Nat) (zs : List Int) (x : Int) (w : World) (h0 : Bs w a0 n0 c0 zs) :
    Calls Trym.prog 6 #[.slice a0 n0 c0, .int .i64 x] w fun e w' => e = .returned (.bool true) ∧ Below w.heap.size w w' := by
  by_cases hs : 1048576 < n0
  · go_enter Trym.func6, Trym.ntmps6
    go_wp2_with (go_at_call 23; refine (bytes23_no _ _ _ _ _ hs).mono ?_; rintro e w' ⟨rfl, rfl⟩)
    go_ret
    exact ⟨rfl, Below.refl _ _⟩
  have hs' : n0 ≤ 1048576 := by omega
  clear hs
  by_cases hx0 : x < 0
  · go_enter Trym.func6, Trym.ntmps6
    go_wp2_with (go_at_call 23; refine (bytes23_yes _ _ _ _ _ hs').mono ?_; rintro e w' ⟨rfl, rfl⟩)
    go_ret
    exact ⟨rfl, Below.refl _ _⟩
  by_cases hx1 : (n0 : Int) < x
  · go_enter Trym.func6, Trym.ntmps6
    go_wp2_with (go_at_call 23; refine (bytes23_yes _ _ _ _ _ hs').mono ?_; rintro e w' ⟨rfl, rfl⟩)
    go_ret
    exact ⟨rfl, Below.refl _ _⟩
  obtain ⟨i, rfl⟩ := Int.eq_ofNat_of_zero_le (show 0 ≤ x by omega)
  have hi : i ≤ n0 := by omega
  clear hx0 hx1
  have hb := Pl.numE_bd zs i (by rw [h0.len]; exact hi)
  rw [h0.len] at hb
  obtain ⟨r, ok, HR, hr1, hr2⟩ : ∃ r ok, Hid (numE zs i = (r, ok)) ∧ i ≤ r ∧ r ≤ n0 := ⟨(numE zs i).1, (numE zs i).2, rfl, hb.1, hb.2⟩
  clear hb
  cases ok
  · go_enter Trym.func6, Trym.ntmps6
    go_wp2_with fail
    refine (bytes23_yes _ _ _ _ _ hs').mono ?_
    rintro e w' ⟨rfl, rfl⟩
    go_wp2_with fail
    refine (zzClone_calls _ _ _ zs _ h0 (by omega)).mono ?_
    rintro e wA ⟨aA, cA, rfl, hA, hbA⟩
    go_wp2_with fail
    refine (ZZnumberEnd_calls hA _ i r false hi rfl HR).mono ?_
    rintro e w'' ⟨rfl, rfl⟩
    go_wp2_with fail
    go_ret
    exact ⟨rfl, hbA⟩
  · obtain ⟨s, d, y, z, hf, he, hS⟩ := Pl.numE_shape zs i r (by rw [h0.len]; exact hi) HR.out
    exact shape_yes a0 n0 c0 zs i r w h0 hs' hi HR hS.last.1 hr2 s d y z hf he hS hS.2.1 hS.head.1

end Go.Proofs.Qxb6001341aMods
