/-
  FnNumberEndGrammarRoundTrip: the walk. The text grows in one block; the ways through each 'if' meet again at a cut.
-/
import Derived.Test.Qxb6001341aModsUtoa
import Derived.Test.Qxb6001341aModsBytes
import Derived.Test.Qxb6001341aModsPlain6
import Derived.Test.Qxb6001341aModsGiven
import Derived.Deep.CutBlock
namespace Go.Proofs.Qxb6001341aMods
open Go.RowKit
open Pl (numE digB noHead stopB SgnOk IntOk FracOk NumOk)

/-- The text so far: k bytes T, in the block that was laid first behind wS. -/
def TX (wS w' : World) (k : Nat) (T : List Int) : Prop :=
  T.length = k ∧ w'.ownsRow wS.heap.size 5 1 (.slice (some ⟨wS.heap.size, 0, none⟩) k 600) k (T.map (Value.int .u8)) ∧ (∀ z ∈ T, 0 ≤ z ∧ z ≤ 255) ∧ Below wS.heap.size wS w'

theorem TX.owns {wS w' : World} {k : Nat} {T : List Int} (h : TX wS w' k T) : w'.ownsRow wS.heap.size 5 1 (.slice (some ⟨wS.heap.size, 0, none⟩) k 600) k (T.map (Value.int .u8)) := h.2.1
theorem TX.block {wS w' : World} {k : Nat} {T : List Int} (h : TX wS w' k T) : wS.heap.size < w'.heap.size := by
  rcases h.2.1.2 with ⟨h', _⟩ | ⟨g, cap, cur, h', _, hg, _⟩
  · simp at h'
  · simp only [Value.slice.injEq, Option.some.injEq, Addr.mk.injEq, and_true, true_and] at h'
    obtain ⟨rfl, rfl⟩ := h'
    exact (Array.getElem?_eq_some_iff.1 hg).1
theorem owns_later {w w' : World} {B n cap g : Nat} {xs : List Value} (h : w.ownsRow B 5 1 (.slice (some ⟨g, 0, none⟩) n cap) n xs) (hg : g < w.heap.size) (hb : Below w.heap.size w w') : w'.ownsRow B 5 1 (.slice (some ⟨g, 0, none⟩) n cap) n xs := by
  refine ⟨h.1, ?_⟩
  rcases h.2 with ⟨h', _⟩ | ⟨g', cap', cur, h', hB, hh, r⟩
  · simp at h'
  · refine .inr ⟨g', cap', cur, h', hB, ?_, r⟩
    simp only [Value.slice.injEq, Option.some.injEq, Addr.mk.injEq, and_true, true_and] at h'
    obtain ⟨rfl, rfl⟩ := h'
    rw [hb.block _ hg]; exact hh
theorem TX.later {wS w w' : World} {k : Nat} {T : List Int} (h : TX wS w k T) (hb : Below w.heap.size w w') : TX wS w' k T :=
  ⟨h.1, owns_later h.2.1 h.block hb, h.2.2.1, h.2.2.2.trans (hb.mono h.2.2.2.size)⟩
/-- One byte more, out of a block of its own. -/
theorem TX.one {wS w w1 : World} {k : Nat} {T : List Int} {c : Int} (h : TX wS w k T) (h0 : 0 ≤ c) (h1 : c ≤ 255) {o : Obj}
    (ho : w1.ownsRow wS.heap.size 5 1 (.slice (some ⟨wS.heap.size, 0, none⟩) (k + 1) 600) (k + 1) (T.map (Value.int .u8) ++ [.int .u8 c])) (hg : (w.alloc o).grownBy w1 (some wS.heap.size)) : TX wS w1 (k + 1) (T ++ [c]) := by
  refine ⟨by simp [h.1], by simpa using ho, fun z hz => ?_, (h.2.2.2.alloc h.2.2.2.size _).grown hg (by simp; have := h.2.2.2.size; omega) (fun k hk => by cases hk; exact Nat.le_refl _)⟩
  rcases List.mem_append.1 hz with hz | hz
  · exact h.2.2.1 z hz
  · simp at hz; omega
/-- A number's digits more. -/
theorem TX.more {wS w w1 : World} {k m : Nat} {T D : List Int} (h : TX wS w k T) (hD : ∀ z ∈ D, 0 ≤ z ∧ z ≤ 255) (hm : D.length = m)
    (ho : w1.ownsRow wS.heap.size 5 1 (.slice (some ⟨wS.heap.size, 0, none⟩) (k + m) 600) (k + m) (T.map (Value.int .u8) ++ D.map (Value.int .u8))) (hg : w.grownBy w1 (some wS.heap.size)) : TX wS w1 (k + m) (T ++ D) := by
  refine ⟨by simp [h.1, hm], by simpa using ho, fun z hz => ?_, h.2.2.2.grown hg h.2.2.2.size (fun k hk => by cases hk; exact Nat.le_refl _)⟩
  rcases List.mem_append.1 hz with hz | hz
  · exact h.2.2.1 z hz
  · exact hD z hz
theorem cell_new1 (w : World) (c : Int) : ∀ j u, ([.int .u8 c] : List Value)[j]? = some u → (w.alloc (.cells #[.int .u8 c] 5)).cell? ((⟨w.heap.size, 0, none⟩ : Addr).add j) = some u := by
  intro j u h
  rw [Addr.add_lit, Nat.zero_add, World.cell?_alloc_new]
  simpa using h
theorem Digs.len {D : List Int} (h : Digs D) : D.length ≤ 20 := h.2.1

set_option maxHeartbeats 4000000 in
set_option maxRecDepth 20000 in
theorem gram_main (neg : Bool) (iv : Int) (hasF : Bool) (f : Nat) (fv : Int) (hasE up : Bool) (es : Int) (x : Nat) (ev : Int) (a : Option Addr) (n c : Nat) (S : List Int) (w : World)
    (hi0 : 0 ≤ iv) (hi1 : iv ≤ 18446744073709551615) (hf1 : f ≤ 255) (hfv0 : 0 ≤ fv) (hfv1 : fv ≤ 18446744073709551615) (hes0 : 0 ≤ es) (hes1 : es ≤ 255) (hx1 : x ≤ 255) (hev0 : 0 ≤ ev) (hev1 : ev ≤ 18446744073709551615)
    (h : Bs w a n c S) (hn : n ≤ 65536) (HS : Hid (noHead stopB S)) :
    Calls Trym.prog 5 #[.bool neg, .int .u64 iv, .bool hasF, .int .u8 f, .int .u64 fv, .bool hasE, .bool up, .int .u8 es, .int .u8 x, .int .u64 ev, .slice a n c] w fun e w' => e = .returned (.bool true) ∧ Below w.heap.size w w' := by
  obtain ⟨i0, hi, hz0, hz1, hz2⟩ := info_parts info5
  go_enter Trym.func5, Trym.ntmps5
  go_wp2_with fail
  refine (bytes19_yes _ _ _ _ _ _ _ _ _ _ _ _ _ _ (by omega)).mono ?_
  rintro e w' ⟨rfl, rfl⟩
  go_upto_region 5 with fail
  go_cut [71] from 29 to 71 (fun s71 w2 => s71 = .bool false ∧ w2 = w')
  case first =>
    by_cases hn0 : 0 < n
    · obtain ⟨b, off, rfl, HC⟩ := h.at hn0
      obtain ⟨d, HK, hck⟩ := byteAt (k := 0) HC hn0
      rw [Nat.add_zero] at hck
      have hst : stopB d = false := by
        cases S with
        | nil => have := h.len; simp at this; omega
        | cons q r => have h1 := HK.out; simp at h1; subst h1; exact HS.out
      have hst2 : digB d = false ∧ (d == 46) = false ∧ (d == 101) = false ∧ (d == 69) = false := by
        have a := Bool.or_eq_false_iff.1 hst
        have b := Bool.or_eq_false_iff.1 a.2
        have e := Bool.or_eq_false_iff.1 b.2
        exact ⟨a.1, b.1, e.1, e.2⟩
      obtain ⟨t1, t2, t3, t4⟩ := hst2
      clear hst HC HK
      go_wp2_with (go_at_call 20; refine (zzIsDigit_calls _ _).mono ?_; rintro e w'' ⟨rfl, rfl⟩)
      go_meet
      case rel => exact ⟨rfl, rfl⟩
    · go_wp2_with fail
      go_meet
      case rel => exact ⟨rfl, rfl⟩
  case rest =>
  obtain ⟨rfl, rfl⟩ := hcut
  go_wp2_with fail
  refine (zzClone_calls _ _ _ S _ h (by omega)).mono ?_
  rintro e wS ⟨aS, cS, rfl, hS, hbS⟩
  go_upto_if 75 with (at_make; refine wpList_make_own _ rfl _ _ 22 rfl wS.heap.size 5 i0 (.int .u8 0) 1 Trym.underlying22 hi hz0 hz1 _ _ _ 600 rfl rfl rfl (by rw [hz2]; decide) (by decide) (Nat.le_refl _) ?_; intro w0 hown0 hgrow0)
  have hT0 : TX wS w0 0 [] := ⟨rfl, hown0, (fun z hz => by simp at hz), (Below.refl _ _).grown hgrow0 (Nat.le_refl _) (fun k h => by cases h)⟩
  have HT0 : Hid (TX wS w0 0 []) := hT0
  clear hT0 hown0 hgrow0
  go_cut [23, 75] from 29 to 78 (fun s23 s75 w2 => ∃ (k : Nat) (T : List Int), k ≤ 1 ∧ s23 = .slice (some ⟨wS.heap.size, 0, none⟩) k 600 ∧ Hid (TX wS w2 k T) ∧ Hid (SgnOk T))
  case first =>
    cases neg
    · go_wp2_with fail
      go_meet
      case rel => exact ⟨0, [], by omega, rfl, HT0, Pl.sgn_none⟩
    · go_wp2_with (at_builtin; refine wpList_append_fits _ rfl (.tmp 76) (.tmp 77) 22 rfl wS.heap.size 5 i0 1 Trym.underlying22 hi hz1 wS.heap.size 0 600 _ rfl (HT0.out.owns.alloc _) ⟨_, 0, none⟩ 1 1 [.int .u8 45] rfl rfl (cell_new1 _ 45) (map_oneCell [45]) (by omega) ?_; intro w1 hown1 hgrow1)
      have HT1 := HT0.out.one (by omega) (by omega) hown1 hgrow1
      go_meet
      case rel => exact ⟨1, [45], by omega, rfl, HT1, Pl.sgn_some⟩
  case rest =>
  obtain ⟨k, T, hk, rfl, HT, HG⟩ := hcut
  clear HT0
  go_wp2_with fail
  refine (zzUtoa_calls iv hi0 hi1 _).mono ?_
  rintro e wU ⟨aU, cU, D, m, rfl, hU, hbU, hD⟩
  have HTU : Hid (TX wS wU k T) := HT.out.later hbU
  have hm : m ≤ 20 := by rw [← hU.len]; exact hD.len
  have HD : Hid (Digs D) := hD
  clear hD HT hbU
  go_upto_if 83 with (at_builtin; refine wpList_append_fits_any _ rfl (.tmp 79) (.tmp 81) 22 rfl wS.heap.size 5 i0 1 Trym.underlying22 hi hz1 wS.heap.size k 600 _ rfl HTU.out.owns aU m cU (D.map (Value.int .u8)) rfl (by simp [hU.len]) hU.2.2.2.2.1 hU.cells (map_oneCell D) (by omega) ?_; intro w1 hown1 hgrow1)
  have HT2 : Hid (TX wS w1 (k + m) (T ++ D)) := HTU.out.more hU.byte hU.len hown1 hgrow1
  have HI : Hid (IntOk (T ++ D)) := Pl.int_step HG.out HD.out.1 HD.out.2.2.1 HD.out.2.2.2
  clear hown1 hgrow1 HTU HD HG hU
  obtain ⟨T2, HE2⟩ : ∃ T2, Hid (T ++ D = T2) := ⟨_, rfl⟩
  rw [HE2.out] at HT2 HI
  clear HE2
  go_cut [23, 83] from 29 to 99 (fun s23 s83 w2 => ∃ (k : Nat) (T : List Int), k ≤ 297 ∧ s23 = .slice (some ⟨wS.heap.size, 0, none⟩) k 600 ∧ Hid (TX wS w2 k T) ∧ Hid (FracOk T))
  case first =>
    cases hasF
    · go_wp2_with fail
      go_meet
      case rel => exact ⟨k + m, T2, by omega, rfl, HT2, Pl.frac_none HI.out⟩
    · go_wp2_with (at_builtin; refine wpList_append_fits _ rfl (.tmp 84) (.tmp 85) 22 rfl wS.heap.size 5 i0 1 Trym.underlying22 hi hz1 wS.heap.size (k + m) 600 _ rfl (HT2.out.owns.alloc _) ⟨_, 0, none⟩ 1 1 [.int .u8 46] rfl rfl (cell_new1 _ 46) (map_oneCell [46]) (by omega) ?_; intro w3 hown3 hgrow3)
      have HT3 : Hid (TX wS w3 (k + m + 1) (T2 ++ [46])) := HT2.out.one (by omega) (by omega) hown3 hgrow3
      clear hown3 hgrow3 HT2
      go_loopw [23, 24] (fun s23 s24 w2 => ∃ (j : Nat) (Z : List Int), j ≤ f ∧ s24 = .int .i64 j ∧ s23 = .slice (some ⟨wS.heap.size, 0, none⟩) (k + m + 1 + j) 600 ∧ Hid (TX wS w2 (k + m + 1 + j) ((T2 ++ [46]) ++ Z)) ∧ Hid (∀ z ∈ Z, digB z = true))
        (fun _ s24 _ => f - (intOf s24).toNat)
      case atStart => exact ⟨0, [], Nat.zero_le _, rfl, rfl, by rw [List.append_nil]; exact HT3, by intro z hz; simp at hz⟩
      case round =>
        obtain ⟨j, Z, hj, rfl, rfl, HTj, HZ⟩ := hrel
        by_cases hlt : j < f
        · have HZ2 : Hid (∀ z ∈ Z ++ [48], digB z = true) := by
            intro z hz
            rcases List.mem_append.1 hz with hz | hz
            · exact HZ.out z hz
            · simp at hz; subst hz; rfl
          go_wp2_with (at_builtin; refine wpList_append_fits _ rfl (.tmp 93) (.tmp 94) 22 rfl wS.heap.size 5 i0 1 Trym.underlying22 hi hz1 wS.heap.size (k + m + 1 + j) 600 _ rfl (HTj.out.owns.alloc _) ⟨_, 0, none⟩ 1 1 [.int .u8 48] rfl rfl (cell_new1 _ 48) (map_oneCell [48]) (by omega) ?_; intro w4 hown4 hgrow4)
          have HT4 : Hid (TX wS w4 (k + m + 1 + j + 1) (((T2 ++ [46]) ++ Z) ++ [48])) := HTj.out.one (by omega) (by omega) hown4 hgrow4
          rw [List.append_assoc (T2 ++ [46])] at HT4
          go_roundw
          case rel => exact ⟨j + 1, Z ++ [48], by omega, by go_num, rfl, HT4, HZ2⟩
          case measure => simp [intOf]; omega
        · go_wp2_with fail
          refine (zzUtoa_calls fv hfv0 hfv1 _).mono ?_
          rintro e wV ⟨aV, cV, D2, m2, rfl, hV, hbV, hD2⟩
          have HTV : Hid (TX wS wV (k + m + 1 + j) ((T2 ++ [46]) ++ Z)) := HTj.out.later hbV
          have hm2 : m2 ≤ 20 := by rw [← hV.len]; exact hD2.len
          have HF : Hid (FracOk ((T2 ++ [46]) ++ (Z ++ D2))) := Pl.frac_some HI.out (by simp; have := hD2.1; omega) (by
            intro z hz
            rcases List.mem_append.1 hz with hz | hz
            · exact HZ.out z hz
            · exact hD2.2.2.1 z hz)
          clear hD2 hbV HTj
          go_wp2_with (at_builtin; refine wpList_append_fits_any _ rfl (.tmp 96) (.tmp 98) 22 rfl wS.heap.size 5 i0 1 Trym.underlying22 hi hz1 wS.heap.size (k + m + 1 + j) 600 _ rfl HTV.out.owns aV m2 cV (D2.map (Value.int .u8)) rfl (by simp [hV.len]) hV.2.2.2.2.1 hV.cells (map_oneCell D2) (by omega) ?_; intro w5 hown5 hgrow5)
          have HT5 : Hid (TX wS w5 (k + m + 1 + j + m2) (((T2 ++ [46]) ++ Z) ++ D2)) := HTV.out.more hV.byte hV.len hown5 hgrow5
          rw [List.append_assoc (T2 ++ [46])] at HT5
          go_meet
          case rel => exact ⟨k + m + 1 + j + m2, (T2 ++ [46]) ++ (Z ++ D2), by omega, rfl, HT5, HF⟩
  case rest =>
  clear HT2 HI
  obtain ⟨k3, T3, hk3, rfl, HT3, HF3⟩ := hcut
  go_upto_if 100 with fail
  go_cut [23, 100] from 29 to 132 (fun s23 s100 w2 => ∃ (k : Nat) (T : List Int), k ≤ 600 ∧ s23 = .slice (some ⟨wS.heap.size, 0, none⟩) k 600 ∧ Hid (TX wS w2 k T) ∧ Hid (NumOk T))
  case first =>
    cases hasE
    · go_wp2_with fail
      go_meet
      case rel => exact ⟨k3, T3, by omega, rfl, HT3, Pl.exp_none HF3.out⟩
    · go_upto_if 101 with fail
      go_cut [23, 101] from 29 to 107 (fun s23 s101 w2 => s23 = .slice (some ⟨wS.heap.size, 0, none⟩) (k3 + 1) 600 ∧ ∃ y : Int, Hid (y = 101 ∨ y = 69) ∧ Hid (TX wS w2 (k3 + 1) (T3 ++ [y])))
      case first =>
        cases up
        · go_wp2_with (at_builtin; refine wpList_append_fits _ rfl (.tmp 105) (.tmp 106) 22 rfl wS.heap.size 5 i0 1 Trym.underlying22 hi hz1 wS.heap.size k3 600 _ rfl (HT3.out.owns.alloc _) ⟨_, 0, none⟩ 1 1 [.int .u8 101] rfl rfl (cell_new1 _ 101) (map_oneCell [101]) (by omega) ?_; intro w6 hown6 hgrow6)
          have HT6 : Hid (TX wS w6 (k3 + 1) (T3 ++ [101])) := HT3.out.one (by omega) (by omega) hown6 hgrow6
          go_meet
          case rel => exact ⟨rfl, 101, .inl rfl, HT6⟩
        · go_wp2_with (at_builtin; refine wpList_append_fits _ rfl (.tmp 102) (.tmp 103) 22 rfl wS.heap.size 5 i0 1 Trym.underlying22 hi hz1 wS.heap.size k3 600 _ rfl (HT3.out.owns.alloc _) ⟨_, 0, none⟩ 1 1 [.int .u8 69] rfl rfl (cell_new1 _ 69) (map_oneCell [69]) (by omega) ?_; intro w6 hown6 hgrow6)
          have HT6 : Hid (TX wS w6 (k3 + 1) (T3 ++ [69])) := HT3.out.one (by omega) (by omega) hown6 hgrow6
          go_meet
          case rel => exact ⟨rfl, 69, .inr rfl, HT6⟩
      case rest =>
      obtain ⟨rfl, y, HY, HT4⟩ := hcut
      clear HT3
      go_upto_block 2 with fail
      go_cut [23] from 29 to 119 (fun s23 w2 => ∃ (k : Nat) (G : List Int), k ≤ k3 + 2 ∧ s23 = .slice (some ⟨wS.heap.size, 0, none⟩) k 600 ∧ Hid (G = [] ∨ G = [43] ∨ G = [45]) ∧ Hid (TX wS w2 k ((T3 ++ [y]) ++ G)))
      case first =>
        by_cases q1 : es % 3 = 1
        · have b1 : (es % 3 == 1) = true := beq_iff_eq.2 q1
          clear q1
          go_wp2_with (at_builtin; refine wpList_append_fits _ rfl (.tmp 112) (.tmp 113) 22 rfl wS.heap.size 5 i0 1 Trym.underlying22 hi hz1 wS.heap.size (k3 + 1) 600 _ rfl (HT4.out.owns.alloc _) ⟨_, 0, none⟩ 1 1 [.int .u8 43] rfl rfl (cell_new1 _ 43) (map_oneCell [43]) (by omega) ?_; intro w7 hown7 hgrow7)
          have HT7 : Hid (TX wS w7 (k3 + 1 + 1) ((T3 ++ [y]) ++ [43])) := HT4.out.one (by omega) (by omega) hown7 hgrow7
          go_meet
          case rel => exact ⟨k3 + 1 + 1, [43], by omega, rfl, .inr (.inl rfl), HT7⟩
        · have b1 : (es % 3 == 1) = false := beq_eq_false_iff_ne.2 q1
          by_cases q2 : es % 3 = 2
          · have b2 : (es % 3 == 2) = true := beq_iff_eq.2 q2
            clear q1 q2
            go_wp2_with (at_builtin; refine wpList_append_fits _ rfl (.tmp 117) (.tmp 118) 22 rfl wS.heap.size 5 i0 1 Trym.underlying22 hi hz1 wS.heap.size (k3 + 1) 600 _ rfl (HT4.out.owns.alloc _) ⟨_, 0, none⟩ 1 1 [.int .u8 45] rfl rfl (cell_new1 _ 45) (map_oneCell [45]) (by omega) ?_; intro w7 hown7 hgrow7)
            have HT7 : Hid (TX wS w7 (k3 + 1 + 1) ((T3 ++ [y]) ++ [45])) := HT4.out.one (by omega) (by omega) hown7 hgrow7
            go_meet
            case rel => exact ⟨k3 + 1 + 1, [45], by omega, rfl, .inr (.inr rfl), HT7⟩
          · have b2 : (es % 3 == 2) = false := beq_eq_false_iff_ne.2 q2
            clear q1 q2
            go_wp2_with fail
            go_meet
            case rel => exact ⟨k3 + 1, [], by omega, rfl, .inl rfl, by rw [List.append_nil]; exact HT4⟩
      case rest =>
      obtain ⟨k5, G, hk5, rfl, HG5, HT5⟩ := hcut
      clear HT4
      go_wp2_with fail
      go_loopw [23, 25] (fun s23 s25 w2 => ∃ (j : Nat) (Z : List Int), j ≤ x ∧ s25 = .int .i64 j ∧ s23 = .slice (some ⟨wS.heap.size, 0, none⟩) (k5 + j) 600 ∧ Hid (TX wS w2 (k5 + j) (((T3 ++ [y]) ++ G) ++ Z)) ∧ Hid (∀ z ∈ Z, digB z = true))
        (fun _ s25 _ => x - (intOf s25).toNat)
      case atStart => exact ⟨0, [], Nat.zero_le _, rfl, rfl, by rw [List.append_nil]; exact HT5, by intro z hz; simp at hz⟩
      case round =>
        obtain ⟨j, Z, hj, rfl, rfl, HTj, HZ⟩ := hrel
        by_cases hlt : j < x
        · have HZ2 : Hid (∀ z ∈ Z ++ [48], digB z = true) := by
            intro z hz
            rcases List.mem_append.1 hz with hz | hz
            · exact HZ.out z hz
            · simp at hz; subst hz; rfl
          go_wp2_with (at_builtin; refine wpList_append_fits _ rfl (.tmp 126) (.tmp 127) 22 rfl wS.heap.size 5 i0 1 Trym.underlying22 hi hz1 wS.heap.size (k5 + j) 600 _ rfl (HTj.out.owns.alloc _) ⟨_, 0, none⟩ 1 1 [.int .u8 48] rfl rfl (cell_new1 _ 48) (map_oneCell [48]) (by omega) ?_; intro w8 hown8 hgrow8)
          have HT8 : Hid (TX wS w8 (k5 + j + 1) ((((T3 ++ [y]) ++ G) ++ Z) ++ [48])) := HTj.out.one (by omega) (by omega) hown8 hgrow8
          rw [List.append_assoc ((T3 ++ [y]) ++ G)] at HT8
          go_roundw
          case rel => exact ⟨j + 1, Z ++ [48], by omega, by go_num, rfl, HT8, HZ2⟩
          case measure => simp [intOf]; omega
        · go_wp2_with fail
          refine (zzUtoa_calls ev hev0 hev1 _).mono ?_
          rintro e wV ⟨aV, cV, D2, m2, rfl, hV, hbV, hD2⟩
          have HTV : Hid (TX wS wV (k5 + j) (((T3 ++ [y]) ++ G) ++ Z)) := HTj.out.later hbV
          have hm2 : m2 ≤ 20 := by rw [← hV.len]; exact hD2.len
          have HN : Hid (NumOk (((T3 ++ [y]) ++ G) ++ (Z ++ D2))) := Pl.exp_some HF3.out HY.out HG5.out (by simp; have := hD2.1; omega) (by
            intro z hz
            rcases List.mem_append.1 hz with hz | hz
            · exact HZ.out z hz
            · exact hD2.2.2.1 z hz)
          clear hD2 hbV HTj
          go_wp2_with (at_builtin; refine wpList_append_fits_any _ rfl (.tmp 129) (.tmp 131) 22 rfl wS.heap.size 5 i0 1 Trym.underlying22 hi hz1 wS.heap.size (k5 + j) 600 _ rfl HTV.out.owns aV m2 cV (D2.map (Value.int .u8)) rfl (by simp [hV.len]) hV.2.2.2.2.1 hV.cells (map_oneCell D2) (by omega) ?_; intro w9 hown9 hgrow9)
          have HT9 : Hid (TX wS w9 (k5 + j + m2) ((((T3 ++ [y]) ++ G) ++ Z) ++ D2)) := HTV.out.more hV.byte hV.len hown9 hgrow9
          rw [List.append_assoc ((T3 ++ [y]) ++ G)] at HT9
          go_meet
          case rel => exact ⟨k5 + j + m2, ((T3 ++ [y]) ++ G) ++ (Z ++ D2), by omega, rfl, HT9, HN⟩
  case rest =>
  clear HT3 HF3
  obtain ⟨k4, T4, hk4, rfl, HT4, HN4⟩ := hcut
  have hBT : Bs wc (some ⟨wS.heap.size, 0, none⟩) k4 600 T4 := bs_of_owns HT4.out.owns HT4.out.2.2.1
  have hBS : Bs wc aS n cS S := hS.later HT4.out.2.2.2
  have hbc := Below.later hbS HT4.out.2.2.2
  have HR : Hid (numE (T4 ++ S) 0 = (k4, true)) := by show _ = _; rw [HN4.out S HS.out, HT4.out.1]
  clear HT4 HN4 hS hbS
  go_wp2_with fail
  refine (zzCat_calls _ _ _ T4 _ _ _ S _ hBT hBS (by omega) (by omega)).mono ?_
  rintro e wD ⟨aD, cD, rfl, hD, hbD⟩
  have hbe := Below.later hbc hbD
  clear hbc hbD
  go_wp2_with fail
  refine (ZZnumberEnd_calls hD _ 0 k4 true (by omega) rfl HR).mono ?_
  rintro e w'' ⟨rfl, rfl⟩
  go_wp2_with fail
  go_ret
  exact ⟨rfl, hbe⟩

end Go.Proofs.Qxb6001341aMods
