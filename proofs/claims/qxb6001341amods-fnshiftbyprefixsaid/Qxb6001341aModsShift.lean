/-
  FnShiftByPrefix: the walk.
-/
import Derived.Test.Qxb6001341aModsClone
import Derived.Test.Qxb6001341aModsBytes
import Derived.Test.Qxb6001341aModsPlain3
import Derived.OpenShut
namespace Go.Proofs.Qxb6001341aMods
open Go.RowKit
open Pl (numE strE memE)

/-- A slice of bytes that came in, as the row opens it. -/
theorem bs_of_row {w : World} {a : Option Addr} {len cap : Nat} {zs : List Int}
    (h : (a = none ∧ len = 0 ∧ cap = 0 ∧ zs = []) ∨
      ∃ x, a = some x ∧ len ≤ cap ∧ cap ≤ maxLen ∧ zs.length = cap ∧ (∀ i, i < zs.length → w.cell? (x.add i) = some (.int .u8 (zs.getD i 0))) ∧ ∀ n ∈ zs, (Lit.int .u8 n).wf = true) :
    Bs w a len cap (zs.take len) := by
  rcases h with ⟨rfl, rfl, rfl, rfl⟩ | ⟨x, rfl, h1, h2, h3, h4, h5⟩
  · exact ⟨rfl, Nat.le_refl _, Nat.zero_le _, by simp, fun _ => ⟨rfl, rfl⟩, fun h => absurd h (by omega)⟩
  · refine ⟨by simp; omega, h1, h2, fun z hz => bounds_u8 (h5 z (List.mem_of_mem_take hz)), (fun h => by cases h), fun hl => ?_⟩
    obtain ⟨b, off, spot⟩ := x
    have hs : spot = none := by simpa [Addr.add] using World.cell?_spot (h4 0 (by omega))
    subst hs
    refine ⟨b, off, rfl, fun j hj => ?_⟩
    have e : (zs.take len).getD j 0 = zs.getD j 0 := by simp [List.getD, hj]
    rw [e, ← h4 j (by omega), Addr.add_lit]

set_option maxHeartbeats 2000000 in
set_option maxRecDepth 20000 in
theorem shift_walk (a0 : Option Addr) (n0 c0 : Nat) (xs : List Int) (a1 : Option Addr) (n1 c1 : Nat) (ys : List Int) (x : Int) (w : World) (h0 : Bs w a0 n0 c0 xs) (h1 : Bs w a1 n1 c1 ys) :
    Calls Trym.prog 9 #[.slice a0 n0 c0, .slice a1 n1 c1, .int .i64 x] w fun e w' => e = .returned (.bool true) ∧ Below w.heap.size w w' := by
  by_cases hs : 1048576 < n0 + n1
  · go_enter Trym.func9, Trym.ntmps9
    go_wp2_with (go_at_call 29; refine (bytes29_no _ _ _ _ _ _ _ _ hs).mono ?_; rintro e w' ⟨rfl, rfl⟩)
    go_ret
    exact ⟨rfl, Below.refl _ _⟩
  have hs' : n0 + n1 ≤ 1048576 := by omega
  clear hs
  by_cases hx0 : x < 0
  · go_enter Trym.func9, Trym.ntmps9
    go_wp2_with (go_at_call 29; refine (bytes29_yes _ _ _ _ _ _ _ _ hs').mono ?_; rintro e w' ⟨rfl, rfl⟩)
    go_ret
    exact ⟨rfl, Below.refl _ _⟩
  by_cases hx1 : (n1 : Int) < x
  · go_enter Trym.func9, Trym.ntmps9
    go_wp2_with (go_at_call 29; refine (bytes29_yes _ _ _ _ _ _ _ _ hs').mono ?_; rintro e w' ⟨rfl, rfl⟩)
    go_ret
    exact ⟨rfl, Below.refl _ _⟩
  obtain ⟨i, rfl⟩ := Int.eq_ofNat_of_zero_le (show 0 ≤ x by omega)
  have hi : i ≤ n1 := by omega
  clear hx0 hx1
  have HL0 : Hid (xs.length = n0) := h0.len
  have HL1 : Hid (ys.length = n1) := h1.len
  obtain ⟨r, ok, HR, HR', hr⟩ : ∃ r ok, Hid (numE ys i = (r, ok)) ∧ Hid (numE (xs ++ ys) (n0 + i) = (n0 + r, ok)) ∧ r ≤ n1 :=
    ⟨(numE ys i).1, (numE ys i).2, rfl, by show _ = _; rw [← HL0.out, Pl.numE_pre]; rfl, by rw [← HL1.out]; exact (Pl.numE_bd ys i (by rw [HL1.out]; exact hi)).2⟩
  obtain ⟨r2, ok2, HS, HS', hr2⟩ : ∃ r ok, Hid (strE ys i = (r, ok)) ∧ Hid (strE (xs ++ ys) (n0 + i) = (n0 + r, ok)) ∧ r ≤ n1 :=
    ⟨(strE ys i).1, (strE ys i).2, rfl, by show _ = _; rw [← HL0.out, Pl.strE_pre]; rfl, by rw [← HL1.out]; exact Pl.strE_le ys i (by rw [HL1.out]; exact hi)⟩
  obtain ⟨r3, ok3, HM, HM', hr3⟩ : ∃ r ok, Hid (memE ys i = (r, ok)) ∧ Hid (memE (xs ++ ys) (n0 + i) = (n0 + r, ok)) ∧ r ≤ n1 :=
    ⟨(memE ys i).1, (memE ys i).2, rfl, by show _ = _; rw [← HL0.out, Pl.memE_pre]; rfl, by rw [← HL1.out]; exact (Pl.memE_bd ys i (by rw [HL1.out]; exact hi)).2⟩
  go_enter Trym.func9, Trym.ntmps9
  go_wp2_with fail
  refine (bytes29_yes _ _ _ _ _ _ _ _ hs').mono ?_
  rintro e w' ⟨rfl, rfl⟩
  go_wp2_with fail
  refine (zzClone_calls _ _ _ xs _ h0 (by omega)).mono ?_
  rintro e wA ⟨a2, c2, rfl, hA, hbA⟩
  go_wp2_with fail
  refine (zzClone_calls _ _ _ ys _ (h1.later hbA) (by omega)).mono ?_
  rintro e wB ⟨a3, c3, rfl, hB, hbB⟩
  go_wp2_with fail
  refine (zzCat_calls _ _ _ xs _ _ _ ys _ (hA.later hbB) hB (by omega) (by omega)).mono ?_
  rintro e wC ⟨a4, c4, rfl, hC, hbC⟩
  have hB' := hB.later hbC
  have hbel := Below.later (Below.later hbA hbB) hbC
  clear hA hB hbA hbB hbC
  go_wp2_with fail
  refine (ZZnumberEnd_calls hB' _ i r ok hi rfl HR).mono ?_
  rintro e w'' ⟨rfl, rfl⟩
  go_wp2_with fail
  refine (ZZnumberEnd_calls hC _ (n0 + i) (n0 + r) ok (by omega) (by omega) HR').mono ?_
  rintro e w'' ⟨rfl, rfl⟩
  go_wp2_with fail
  refine (ZZstringEnd_calls hB' _ i r2 ok2 hi rfl HS).mono ?_
  rintro e w'' ⟨rfl, rfl⟩
  go_wp2_with fail
  refine (ZZstringEnd_calls hC _ (n0 + i) (n0 + r2) ok2 (by omega) (by omega) HS').mono ?_
  rintro e w'' ⟨rfl, rfl⟩
  go_wp2_with fail
  refine (ZZmemberName_calls hB' _ i r3 ok3 hi rfl HM).mono ?_
  rintro e w'' ⟨rfl, rfl⟩
  go_wp2_with fail
  refine (ZZmemberName_calls hC _ (n0 + i) (n0 + r3) ok3 (by omega) (by omega) HM').mono ?_
  rintro e w'' ⟨rfl, rfl⟩
  go_wp2_with fail
  go_ret
  exact ⟨ret_bool (beq_iff_eq.2 (by omega)).symm, hbel⟩

end Go.Proofs.Qxb6001341aMods
