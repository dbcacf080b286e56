/-
  FnNumberEndShape: the walk.
-/
import Derived.Test.Qxb6001341aModsClone
import Derived.Test.Qxb6001341aModsBytes
import Derived.Test.Qxb6001341aModsPlain4
import Derived.Test.Qxb6001341aModsGiven
import Derived.Deep.CutBlock
namespace Go.Proofs.Qxb6001341aMods
open Go.RowKit
open Pl (numE Shp dotAt exAt digB)

theorem exAt_val {he : Bool} {x k : Nat} {q : Int} (h : exAt he x k = q) (hq : 0 ≤ q) : q = x := by
  subst h; unfold exAt at hq ⊢; split
  · rfl
  · rename_i h; rw [if_neg h] at hq; omega

set_option maxHeartbeats 4000000 in
set_option maxRecDepth 20000 in
/-- An accepted number: from the checks ahead of the loop on. -/
theorem shape_yes (a0 : Option Addr) (n0 c0 : Nat) (zs : List Int) (i e : Nat) (w : World) (h0 : Bs w a0 n0 c0 zs) (hn : n0 ≤ 1048576) (hi : i ≤ n0) (HR : Hid (numE zs i = (e, true)))
    (he : i < e) (hen : e ≤ n0) (s d x y : Nat) (hf hx : Bool) (HS : Hid (Shp zs i e s d x y hf hx)) (hs1 : i ≤ s) (hs2 : s < e) :
    Calls Trym.prog 6 #[.slice a0 n0 c0, .int .i64 i] w fun e w' => e = .returned (.bool true) ∧ Below w.heap.size w w' := by
  have hne : (((e : Int)) == (i : Int)) = false := beq_eq_false_iff_ne.2 (by omega)
  go_enter Trym.func6, Trym.ntmps6
  go_wp2_with fail
  refine (bytes23_yes _ _ _ _ _ hn).mono ?_
  rintro ed w' ⟨rfl, rfl⟩
  go_wp2_with fail
  refine (zzClone_calls _ _ _ zs _ h0 (by omega)).mono ?_
  rintro ed wA ⟨aA, cA, rfl, hA, hbA⟩
  obtain ⟨b, off, rfl, HC⟩ := hA.at (by omega)
  obtain ⟨hl1, hl2⟩ := HS.out.last
  obtain ⟨hid, hix⟩ : i ≤ d ∧ i < x := by have q := HS.out; have q1 := q.2.2.2.2.1; have q2 := q.2.2.2.2.2.2.2.1; exact ⟨by omega, by omega⟩
  obtain ⟨hh1, hh2, hh3⟩ := HS.out.head
  obtain ⟨cl, HKl, hcl⟩ := byteAt (k := e - 1) HC (by omega)
  rw [HKl.out] at hl2
  obtain ⟨ci, HKi, hci⟩ := byteAt (k := i) HC (by omega)
  obtain ⟨cs, HKs, hcs⟩ := byteAt (k := s) HC (by omega)
  rw [HKs.out] at hh2 hh3
  have HH : Hid (cs = 48 → s + 1 < e → digB (zs.getD (s + 1) 0) = false) := hh3
  have HI : Hid (s = i + 1 ↔ ci = 45) := by rw [← HKi.out]; exact HS.out.2.2.2.1
  have HI2 : Hid (s ≤ i + 1) := HS.out.2.2.1
  clear hh3 hl1 hh1
  go_wp2_with fail
  refine (ZZnumberEnd_calls hA _ i _ true hi rfl HR).mono ?_
  rintro ed w'' ⟨rfl, rfl⟩
  clear hA
  go_upto_if 64 with (go_at_call 20; refine (zzIsDigit_calls _ _).mono ?_; rintro ed w'' ⟨rfl, rfl⟩)
  go_cut [7, 64] from 13 to 66 (fun s7 s64 w' => s7 = .int .i64 s ∧ w' = w'')
  case first =>
    by_cases h45 : ci = 45
    · have hsi : s = i + 1 := HI.out.2 h45
      have HSI : Hid (s = i + 1) := hsi
      clear hsi
      have q45 : (ci == 45) = true := beq_iff_eq.2 h45
      clear h45
      go_wp2_with fail
      go_meet
      case rel => exact ⟨by rw [HSI.out]; go_num, rfl⟩
    · have q45 : (ci == 45) = false := beq_eq_false_iff_ne.2 h45
      have HSI : Hid (s = i) := by
        have h1 := HI2.out
        have h2 : s ≠ i + 1 := fun h => h45 (HI.out.1 h)
        show s = i; omega
      clear h45
      go_wp2_with fail
      go_meet
      case rel => exact ⟨by rw [HSI.out], rfl⟩
  case rest =>
  obtain ⟨rfl, rfl⟩ := hcut
  go_upto_region 20 with (go_at_call 20; refine (zzIsDigit_calls _ _).mono ?_; rintro ed w'' ⟨rfl, rfl⟩)
  go_cut [96] from 13 to 96 (fun s96 w' => s96 = .bool false ∧ w' = w'')
  case first =>
    by_cases h48 : cs = 48
    · subst h48
      by_cases hlt : s + 1 < e
      · obtain ⟨ct, HKt, hct⟩ := byteAt (k := s + 1) HC (by omega)
        have hd : digB ct = false := by rw [← HKt.out]; exact HH.out rfl hlt
        go_wp2_with (go_at_call 20; refine (zzIsDigit_calls _ _).mono ?_; rintro ed w'' ⟨rfl, rfl⟩)
        go_meet
        case rel => exact ⟨rfl, rfl⟩
      · go_wp2_with fail
        go_meet
        case rel => exact ⟨rfl, rfl⟩
    · have q48 : (cs == 48) = false := beq_eq_false_iff_ne.2 h48
      go_wp2_with fail
      go_meet
      case rel => exact ⟨rfl, rfl⟩
  case rest =>
  obtain ⟨rfl, rfl⟩ := hcut
  clear hcl hci hcs hl2 hh2 HH HI HI2 HKl HKi HKs
  go_wp2_with fail
  go_loop [8, 9, 10] (fun p q t => ∃ (k : Nat) (pv qv : Int), i ≤ k ∧ k ≤ e ∧ t = .int .i64 k ∧ p = .int .i64 pv ∧ q = .int .i64 qv ∧ Hid (dotAt hf d k = pv) ∧ Hid (exAt hx x k = qv)) (fun _ _ t => e - (intOf t).toNat)
  case atStart => exact ⟨i, -1, -1, Nat.le_refl _, by omega, rfl, rfl, rfl, Pl.dotAt_start hf d i (by omega), Pl.exAt_start hx x i (by omega)⟩
  case round =>
    obtain ⟨k, pv, qv, hk1, hk2, rfl, rfl, rfl, HD, HX⟩ := hrel
    have bp := Pl.dotAt_bd hf d k
    have bq := Pl.exAt_bd hx x k
    rw [HD.out] at bp
    rw [HX.out] at bq
    by_cases hlt : k < e
    · obtain ⟨c, HK, hck⟩ := byteAt (k := k) HC (by omega)
      have hm := HS.out.meets k hk1 hlt
      rw [HK.out, HD.out, HX.out] at hm
      rcases hm with ⟨m1, m2, m3⟩ | ⟨rfl, rfl, m2, m3⟩ | ⟨rfl, rfl, rfl, m2, m3⟩ | ⟨m1, rfl, m2, m3⟩ | ⟨m1, ⟨m4, m5⟩, m2, m3⟩
      · have M2 : Hid (dotAt hf d (k + 1) = pv) := m2
        have M3 : Hid (exAt hx x (k + 1) = qv) := m3
        clear m2 m3
        go_wp2_with (go_at_call 20; refine (zzIsDigit_calls _ _).mono ?_; rintro ed w'' ⟨rfl, rfl⟩)
        go_round
        case rel => exact ⟨k + 1, pv, qv, by omega, by omega, by go_num, rfl, rfl, M2, M3⟩
        case measure => simp [intOf]; omega
      · have M2 : Hid (dotAt hf d (k + 1) = pv) := m2
        have M3 : Hid (exAt hx x (k + 1) = qv) := m3
        clear m2 m3
        have hdg : digB 45 = false := rfl
        go_wp2_with (go_at_call 20; refine (zzIsDigit_calls _ _).mono ?_; rintro ed w'' ⟨rfl, rfl⟩)
        go_round
        case rel => exact ⟨k + 1, pv, qv, by omega, by omega, by go_num, rfl, rfl, M2, M3⟩
        case measure => simp [intOf]; omega
      · have M2 : Hid (dotAt hf d (k + 1) = k) := m2
        have M3 : Hid (exAt hx x (k + 1) = -1) := m3
        clear m2 m3
        have hdg : digB 46 = false := rfl
        go_wp2_with (go_at_call 20; refine (zzIsDigit_calls _ _).mono ?_; rintro ed w'' ⟨rfl, rfl⟩)
        go_round
        case rel => exact ⟨k + 1, k, -1, by omega, by omega, by go_num, rfl, rfl, M2, M3⟩
        case measure => simp [intOf]; omega
      · have M2 : Hid (dotAt hf d (k + 1) = pv) := m2
        have M3 : Hid (exAt hx x (k + 1) = k) := m3
        clear m2 m3
        rcases m1 with rfl | rfl
        · have hdg : digB 101 = false := rfl
          go_wp2_with (go_at_call 20; refine (zzIsDigit_calls _ _).mono ?_; rintro ed w'' ⟨rfl, rfl⟩)
          go_round
          case rel => exact ⟨k + 1, pv, k, by omega, by omega, by go_num, rfl, rfl, M2, M3⟩
          case measure => simp [intOf]; omega
        · have hdg : digB 69 = false := rfl
          go_wp2_with (go_at_call 20; refine (zzIsDigit_calls _ _).mono ?_; rintro ed w'' ⟨rfl, rfl⟩)
          go_round
          case rel => exact ⟨k + 1, pv, k, by omega, by omega, by go_num, rfl, rfl, M2, M3⟩
          case measure => simp [intOf]; omega
      · have M2 : Hid (dotAt hf d (k + 1) = pv) := m2
        have M3 : Hid (exAt hx x (k + 1) = qv) := m3
        clear m2 m3
        have q1 : ((k : Int) == qv + 1) = true := beq_iff_eq.2 (by omega)
        have hqx := exAt_val HX.out m5
        have hki : ((k : Int) == (i : Int)) = false := beq_eq_false_iff_ne.2 (by omega)
        clear hqx
        clear m4
        rcases m1 with rfl | rfl
        · have hdg : digB 43 = false := rfl
          go_wp2_with (go_at_call 20; refine (zzIsDigit_calls _ _).mono ?_; rintro ed w'' ⟨rfl, rfl⟩)
          go_round
          case rel => exact ⟨k + 1, pv, qv, by omega, by omega, by go_num, rfl, rfl, M2, M3⟩
          case measure => simp [intOf]; omega
        · have hdg : digB 45 = false := rfl
          go_wp2_with (go_at_call 20; refine (zzIsDigit_calls _ _).mono ?_; rintro ed w'' ⟨rfl, rfl⟩)
          go_round
          case rel => exact ⟨k + 1, pv, qv, by omega, by omega, by go_num, rfl, rfl, M2, M3⟩
          case measure => simp [intOf]; omega
    · have hke : k = e := by omega
      subst hke
      have hdt := HS.out.dot
      have hex := HS.out.ex
      rw [HD.out] at hdt
      rw [HX.out] at hex
      rcases hdt with rfl | ⟨rfl, d1, d2⟩
      · rcases hex with rfl | ⟨rfl, x1, x2⟩ | ⟨rfl, x1, x2, x3⟩
        · go_wp2_with (go_at_call 20; refine (zzIsDigit_calls _ _).mono ?_; rintro ed w'' ⟨rfl, rfl⟩)
          go_ret
          exact ⟨rfl, hbA⟩
        · obtain ⟨cx, HKx, hcx⟩ := byteAt (k := x + 1) HC (by omega)
          rw [HKx.out] at x2
          have bx := Pl.digB_ne x2
          have qa : (cx == 43) = false := beq_eq_false_iff_ne.2 (by omega)
          have qb : (cx == 45) = false := beq_eq_false_iff_ne.2 (by omega)
          go_wp2_with (go_at_call 20; refine (zzIsDigit_calls _ _).mono ?_; rintro ed w'' ⟨rfl, rfl⟩)
          go_ret
          exact ⟨rfl, hbA⟩
        · obtain ⟨cx, HKx, hcx⟩ := byteAt (k := x + 1) HC (by omega)
          obtain ⟨cy, HKy, hcy⟩ := byteAt (k := x + 2) HC (by omega)
          rw [HKx.out] at x2
          rw [HKy.out] at x3
          rcases x2 with rfl | rfl
          · go_wp2_with (go_at_call 20; refine (zzIsDigit_calls _ _).mono ?_; rintro ed w'' ⟨rfl, rfl⟩)
            go_ret
            exact ⟨rfl, hbA⟩
          · go_wp2_with (go_at_call 20; refine (zzIsDigit_calls _ _).mono ?_; rintro ed w'' ⟨rfl, rfl⟩)
            go_ret
            exact ⟨rfl, hbA⟩
      · obtain ⟨cd, HKd, hcd⟩ := byteAt (k := d + 1) HC (by omega)
        rw [HKd.out] at d2
        rcases hex with rfl | ⟨rfl, x1, x2⟩ | ⟨rfl, x1, x2, x3⟩
        · go_wp2_with (go_at_call 20; refine (zzIsDigit_calls _ _).mono ?_; rintro ed w'' ⟨rfl, rfl⟩)
          go_ret
          exact ⟨rfl, hbA⟩
        · obtain ⟨cx, HKx, hcx⟩ := byteAt (k := x + 1) HC (by omega)
          rw [HKx.out] at x2
          have bx := Pl.digB_ne x2
          have qa : (cx == 43) = false := beq_eq_false_iff_ne.2 (by omega)
          have qb : (cx == 45) = false := beq_eq_false_iff_ne.2 (by omega)
          go_wp2_with (go_at_call 20; refine (zzIsDigit_calls _ _).mono ?_; rintro ed w'' ⟨rfl, rfl⟩)
          go_ret
          exact ⟨rfl, hbA⟩
        · obtain ⟨cx, HKx, hcx⟩ := byteAt (k := x + 1) HC (by omega)
          obtain ⟨cy, HKy, hcy⟩ := byteAt (k := x + 2) HC (by omega)
          rw [HKx.out] at x2
          rw [HKy.out] at x3
          rcases x2 with rfl | rfl
          · go_wp2_with (go_at_call 20; refine (zzIsDigit_calls _ _).mono ?_; rintro ed w'' ⟨rfl, rfl⟩)
            go_ret
            exact ⟨rfl, hbA⟩
          · go_wp2_with (go_at_call 20; refine (zzIsDigit_calls _ _).mono ?_; rintro ed w'' ⟨rfl, rfl⟩)
            go_ret
            exact ⟨rfl, hbA⟩

end Go.Proofs.Qxb6001341aMods
