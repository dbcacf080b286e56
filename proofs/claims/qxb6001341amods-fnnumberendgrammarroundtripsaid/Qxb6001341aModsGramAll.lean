/-
  FnNumberEndGrammarRoundTrip: the walk, every way.
-/
import Derived.Test.Qxb6001341aModsGram
namespace Go.Proofs.Qxb6001341aMods
open Go.RowKit
open Pl (digB noHead stopB)

set_option maxHeartbeats 1000000 in
set_option maxRecDepth 20000 in
theorem gram_walk (neg : Bool) (iv : Int) (hasF : Bool) (f : Int) (fv : Int) (hasE up : Bool) (es : Int) (x : Int) (ev : Int) (a : Option Addr) (n c : Nat) (S : List Int) (w : World)
    (bi : 0 ≤ iv ∧ iv ≤ 18446744073709551615) (bf : 0 ≤ f ∧ f ≤ 255) (bfv : 0 ≤ fv ∧ fv ≤ 18446744073709551615) (bes : 0 ≤ es ∧ es ≤ 255) (bx : 0 ≤ x ∧ x ≤ 255) (bev : 0 ≤ ev ∧ ev ≤ 18446744073709551615)
    (h : Bs w a n c S) :
    Calls Trym.prog 5 #[.bool neg, .int .u64 iv, .bool hasF, .int .u8 f, .int .u64 fv, .bool hasE, .bool up, .int .u8 es, .int .u8 x, .int .u64 ev, .slice a n c] w fun e w' => e = .returned (.bool true) ∧ Below w.heap.size w w' := by
  by_cases hs : 1048576 < n
  · go_enter Trym.func5, Trym.ntmps5
    go_wp2_with (first | (go_at_call 19; refine (bytes19_no _ _ _ _ _ _ _ _ _ _ _ _ _ _ hs).mono ?_; rintro e w' ⟨rfl, rfl⟩))
    go_ret
    exact ⟨rfl, Below.refl _ _⟩
  by_cases hl : 65536 < n
  · go_enter Trym.func5, Trym.ntmps5
    go_wp2_with (first | (go_at_call 19; refine (bytes19_yes _ _ _ _ _ _ _ _ _ _ _ _ _ _ (by omega)).mono ?_; rintro e w' ⟨rfl, rfl⟩))
    go_ret
    exact ⟨rfl, Below.refl _ _⟩
  have hn : n ≤ 65536 := by omega
  clear hs hl
  by_cases hst : noHead stopB S
  · obtain ⟨f, rfl⟩ := Int.eq_ofNat_of_zero_le bf.1
    obtain ⟨x, rfl⟩ := Int.eq_ofNat_of_zero_le bx.1
    exact gram_main neg iv hasF f fv hasE up es x ev a n c S w bi.1 bi.2 (by omega) bfv.1 bfv.2 bes.1 bes.2 (by omega) bev.1 bev.2 h hn hst
  · obtain ⟨hn0, d, hd, hsd⟩ : 0 < n ∧ ∃ d, Hid (S.getD 0 0 = d) ∧ stopB d = true := by
      cases S with
      | nil => exact absurd trivial hst
      | cons q r =>
        refine ⟨by have := h.len; simp at this; omega, q, rfl, ?_⟩
        cases hq : stopB q
        · exact absurd hq hst
        · rfl
    obtain ⟨b, off, rfl, HC⟩ := h.at hn0
    have hck : w.cell? ⟨b, off, none⟩ = some (.int .u8 d) := by have := HC.out 0 hn0; rw [Nat.add_zero, hd.out] at this; exact this
    clear hst HC hd
    cases hdg : digB d
    · have h3 : d = 46 ∨ d = 101 ∨ d = 69 := by
        have h2 : (digB d || (d == 46 || (d == 101 || d == 69))) = true := hsd
        rw [hdg] at h2
        simpa using h2
      clear hsd
      rcases h3 with rfl | rfl | rfl
      · go_enter Trym.func5, Trym.ntmps5
        go_wp2_with (first | (go_at_call 19; refine (bytes19_yes _ _ _ _ _ _ _ _ _ _ _ _ _ _ (by omega)).mono ?_; rintro e w' ⟨rfl, rfl⟩) | (go_at_call 20; refine (zzIsDigit_calls _ _).mono ?_; rintro e w' ⟨rfl, rfl⟩))
        go_ret
        exact ⟨rfl, Below.refl _ _⟩
      · go_enter Trym.func5, Trym.ntmps5
        go_wp2_with (first | (go_at_call 19; refine (bytes19_yes _ _ _ _ _ _ _ _ _ _ _ _ _ _ (by omega)).mono ?_; rintro e w' ⟨rfl, rfl⟩) | (go_at_call 20; refine (zzIsDigit_calls _ _).mono ?_; rintro e w' ⟨rfl, rfl⟩))
        go_ret
        exact ⟨rfl, Below.refl _ _⟩
      · go_enter Trym.func5, Trym.ntmps5
        go_wp2_with (first | (go_at_call 19; refine (bytes19_yes _ _ _ _ _ _ _ _ _ _ _ _ _ _ (by omega)).mono ?_; rintro e w' ⟨rfl, rfl⟩) | (go_at_call 20; refine (zzIsDigit_calls _ _).mono ?_; rintro e w' ⟨rfl, rfl⟩))
        go_ret
        exact ⟨rfl, Below.refl _ _⟩
    · clear hsd
      go_enter Trym.func5, Trym.ntmps5
      go_wp2_with (first | (go_at_call 19; refine (bytes19_yes _ _ _ _ _ _ _ _ _ _ _ _ _ _ (by omega)).mono ?_; rintro e w' ⟨rfl, rfl⟩) | (go_at_call 20; refine (zzIsDigit_calls _ _).mono ?_; rintro e w' ⟨rfl, rfl⟩))
      go_ret
      exact ⟨rfl, Below.refl _ _⟩

end Go.Proofs.Qxb6001341aMods
