/-
  zzAllSpace; the bounds on total length of the two laws on member names.
-/
import Derived.Test.Qxb6001341aModsBs
namespace Go.Proofs.Qxb6001341aMods
open Go.RowKit
open Pl (spB)

theorem allSpace_empty (a : Option Addr) (cap : Nat) (w : World) : Calls Trym.prog 25 #[.slice a 0 cap] w fun e w' => e = .returned (.bool true) ∧ w' = w := by
  go_enter Trym.func25, Trym.ntmps25
  go_wp2
  go_loop [3] (fun i => i = .int .i64 0) (fun _ => 0)
  case atStart => rfl
  case round =>
    subst hrel
    go_wp2
    go_ret
    exact ⟨rfl, rfl⟩

theorem all_yes {zs : List Int} {n : Nat} (hn : zs.length = n) (h : ∀ j, j < n → spB (zs.getD j 0) = true) : zs.all spB = true := by
  rw [List.all_eq_true]
  intro z hz
  obtain ⟨j, hj, rfl⟩ := List.mem_iff_getElem.1 hz
  have := h j (by omega)
  simpa [List.getD, List.getElem?_eq_getElem hj] using this
theorem all_no {zs : List Int} {k : Nat} (hk : k < zs.length) (h : spB (zs.getD k 0) = false) : zs.all spB = false := by
  rw [List.all_eq_false]
  refine ⟨zs.getD k 0, ?_, by rw [h]; decide⟩
  simp [List.getD, List.getElem?_eq_getElem hk]

theorem allSpace_row (b off n cap : Nat) (zs : List Int) (w : World) (HN : Hid (zs.length = n)) (hm : n ≤ maxLen)
    (HC : Hid (∀ j, j < n → w.cell? ⟨b, off + j, none⟩ = some (.int .u8 (zs.getD j 0)))) :
    Calls Trym.prog 25 #[.slice (some ⟨b, off, none⟩) n cap] w fun e w' => e = .returned (.bool (zs.all spB)) ∧ w' = w := by
  unfold maxLen at hm
  go_enter Trym.func25, Trym.ntmps25
  go_wp2
  go_loop [3] (fun s => ∃ k : Nat, k ≤ n ∧ s = .int .i64 k ∧ Hid (∀ j, j < k → spB (zs.getD j 0) = true)) (fun s => n - (intOf s).toNat)
  case atStart => exact ⟨0, Nat.zero_le _, rfl, fun j hj => absurd hj (by omega)⟩
  case round =>
    obtain ⟨k, hk, rfl, HE⟩ := hrel
    by_cases hlt : k < n
    · obtain ⟨c, HK, hck⟩ := byteAt HC hlt
      cases hd : spB c
      · have HF : Hid (zs.all spB = false) := all_no (k := k) (by rw [HN.out]; omega) (by rw [HK.out]; exact hd)
        go_wp2_with (go_at_call 28; refine (zzIsSpace_calls _ _).mono ?_; rintro e w' ⟨rfl, rfl⟩)
        go_ret
        exact ⟨ret_bool HF.out, rfl⟩
      · have HF : Hid (∀ j, j < k + 1 → spB (zs.getD j 0) = true) := by
          intro j hj
          by_cases e : j = k
          · rw [e, HK.out]; exact hd
          · exact HE.out j (by omega)
        go_wp2_with (go_at_call 28; refine (zzIsSpace_calls _ _).mono ?_; rintro e w' ⟨rfl, rfl⟩)
        go_round
        case rel => exact ⟨k + 1, by omega, by go_num, HF⟩
        case measure => simp [intOf]; omega
    · have HF : Hid (zs.all spB = true) := all_yes HN.out (fun j hj => HE.out j (by omega))
      go_wp2
      go_ret
      exact ⟨ret_bool HF.out, rfl⟩

theorem zzAllSpace_calls {w : World} {a : Option Addr} {n cap : Nat} {zs : List Int} (h : Bs w a n cap zs) (p : Bool) (HP : Hid (zs.all spB = p)) :
    Calls Trym.prog 25 #[.slice a n cap] w fun e w' => e = .returned (.bool p) ∧ w' = w := by
  by_cases hn : 0 < n
  · obtain ⟨b, off, rfl, HC⟩ := h.at hn
    have k := allSpace_row b off n cap zs w h.len h.max HC
    rw [HP.out] at k; exact k
  · obtain rfl : n = 0 := by omega
    have hz : zs = [] := List.eq_nil_of_length_eq_zero h.len
    subst hz
    have hp : true = p := HP.out
    subst hp
    exact allSpace_empty a cap w

theorem bytes24_yes (a1 a2 a3 a4 : Option Addr) (n1 c1 n2 c2 n3 c3 n4 c4 : Nat) (x : Int) (w : World) (h : n1 + n2 + n3 + n4 ≤ 1048576) :
    Calls Trym.prog 24 #[.slice a1 n1 c1, .slice a2 n2 c2, .slice a3 n3 c3, .int .u8 x, .slice a4 n4 c4] w fun e w' => e = .returned (.bool true) ∧ w' = w := by
  go_enter Trym.func24, Trym.ntmps24
  go_wp2
  go_ret
  exact ⟨rfl, rfl⟩
theorem bytes24_no (a1 a2 a3 a4 : Option Addr) (n1 c1 n2 c2 n3 c3 n4 c4 : Nat) (x : Int) (w : World) (h : 1048576 < n1 + n2 + n3 + n4) :
    Calls Trym.prog 24 #[.slice a1 n1 c1, .slice a2 n2 c2, .slice a3 n3 c3, .int .u8 x, .slice a4 n4 c4] w fun e w' => e = .returned (.bool false) ∧ w' = w := by
  by_cases qn1 : 1048576 < n1
  · go_enter Trym.func24, Trym.ntmps24
    go_wp2
    go_ret
    exact ⟨rfl, rfl⟩
  by_cases qn2 : 1048576 < n2
  · go_enter Trym.func24, Trym.ntmps24
    go_wp2
    go_ret
    exact ⟨rfl, rfl⟩
  by_cases qn1n2 : 1048576 < n1 + n2
  · go_enter Trym.func24, Trym.ntmps24
    go_wp2
    go_ret
    exact ⟨rfl, rfl⟩
  by_cases qn3 : 1048576 < n3
  · go_enter Trym.func24, Trym.ntmps24
    go_wp2
    go_ret
    exact ⟨rfl, rfl⟩
  by_cases qn1n2n3 : 1048576 < n1 + n2 + n3
  · go_enter Trym.func24, Trym.ntmps24
    go_wp2
    go_ret
    exact ⟨rfl, rfl⟩
  by_cases qn4 : 1048576 < n4
  · go_enter Trym.func24, Trym.ntmps24
    go_wp2
    go_ret
    exact ⟨rfl, rfl⟩
  go_enter Trym.func24, Trym.ntmps24
  go_wp2
  go_ret
  exact ⟨rfl, rfl⟩

theorem bytes27_yes (a1 a2 a3 a4 : Option Addr) (n1 c1 n2 c2 n3 c3 n4 c4 : Nat) (x : Int) (w : World) (h : n1 + n2 + n3 + n4 ≤ 1048576) :
    Calls Trym.prog 27 #[.slice a1 n1 c1, .slice a2 n2 c2, .slice a3 n3 c3, .int .u8 x, .slice a4 n4 c4] w fun e w' => e = .returned (.bool true) ∧ w' = w := by
  go_enter Trym.func27, Trym.ntmps27
  go_wp2
  go_ret
  exact ⟨rfl, rfl⟩
theorem bytes27_no (a1 a2 a3 a4 : Option Addr) (n1 c1 n2 c2 n3 c3 n4 c4 : Nat) (x : Int) (w : World) (h : 1048576 < n1 + n2 + n3 + n4) :
    Calls Trym.prog 27 #[.slice a1 n1 c1, .slice a2 n2 c2, .slice a3 n3 c3, .int .u8 x, .slice a4 n4 c4] w fun e w' => e = .returned (.bool false) ∧ w' = w := by
  by_cases qn1 : 1048576 < n1
  · go_enter Trym.func27, Trym.ntmps27
    go_wp2
    go_ret
    exact ⟨rfl, rfl⟩
  by_cases qn2 : 1048576 < n2
  · go_enter Trym.func27, Trym.ntmps27
    go_wp2
    go_ret
    exact ⟨rfl, rfl⟩
  by_cases qn1n2 : 1048576 < n1 + n2
  · go_enter Trym.func27, Trym.ntmps27
    go_wp2
    go_ret
    exact ⟨rfl, rfl⟩
  by_cases qn3 : 1048576 < n3
  · go_enter Trym.func27, Trym.ntmps27
    go_wp2
    go_ret
    exact ⟨rfl, rfl⟩
  by_cases qn1n2n3 : 1048576 < n1 + n2 + n3
  · go_enter Trym.func27, Trym.ntmps27
    go_wp2
    go_ret
    exact ⟨rfl, rfl⟩
  by_cases qn4 : 1048576 < n4
  · go_enter Trym.func27, Trym.ntmps27
    go_wp2
    go_ret
    exact ⟨rfl, rfl⟩
  go_enter Trym.func27, Trym.ntmps27
  go_wp2
  go_ret
  exact ⟨rfl, rfl⟩

end Go.Proofs.Qxb6001341aMods
