/-
  zzEncode: the body of a JSON string, in a new slice.
-/
import Derived.Test.Qxb6001341aModsClone
namespace Go.Proofs.Qxb6001341aMods
open Go.RowKit
open Pl (enc encB shortE hexD)

/-- The cells of a block that was laid just now. -/
theorem cells_new (w : World) (l : List Value) (t : TypeId) : ∀ j u, l[j]? = some u → (w.alloc (.cells l.toArray t)).cell? ((⟨w.heap.size, 0, none⟩ : Addr).add j) = some u := by
  intro j u h
  rw [Addr.add_lit, Nat.zero_add]; simp [h]

/-- One byte more is written. -/
theorem enc_step {w1 : World} {B k m L : Nat} {v : Value} {zs news : List Int} {c : Int} {s1 s2 s4 : Bool} (hE : encB s1 s2 s4 c = news) (HK : Hid (zs.getD k 0 = c)) (hk : k < zs.length)
    (h : w1.ownsRow B 5 1 v (m + L) ((enc s1 s2 s4 (zs.take k)).map (Value.int .u8) ++ news.map (Value.int .u8))) :
    w1.ownsRow B 5 1 v (m + L) ((enc s1 s2 s4 (zs.take (k + 1))).map (Value.int .u8)) := by
  rw [Pl.enc_take s1 s2 s4 zs k hk, HK.out, hE, List.map_append]; exact h

theorem and15 (c : Int) (h0 : 0 ≤ c) (h1 : c < 32) : bits BinOp.and IntKind.u8 c 15 = c % 16 := by
  obtain ⟨d, rfl⟩ := Int.eq_ofNat_of_zero_le h0
  have hd : d < 32 := by omega
  have key : ∀ d : Nat, d < 32 → bits BinOp.and IntKind.u8 (d : Int) 15 = (d : Int) % 16 := by decide +kernel
  exact key d hd

theorem zzShort_to (c sh : Int) (w : World) (HS : Hid (shortE c = sh)) : Calls Trym.prog 32 #[.int .u8 c] w fun e w' => e = .returned (.int .u8 sh) ∧ w' = w := by
  have h := zzShort_calls c w
  rw [HS.out] at h; exact h

theorem owns_len {w : World} {B n : Nat} {v : Value} {l : List Int} (h : w.ownsRow B 5 1 v n (l.map (Value.int .u8))) : l.length = n := by simpa using h.1

set_option maxHeartbeats 2000000 in
theorem zzEncode_calls (a : Option Addr) (n cap : Nat) (zs : List Int) (st : Int) (s1 s2 s4 : Bool) (w : World) (h : Bs w a n cap zs) (hn : n ≤ 1048576)
    (e1 : (bits BinOp.and IntKind.u8 st 1 != 0) = s1) (e2 : (bits BinOp.and IntKind.u8 st 2 != 0) = s2) (e4 : (bits BinOp.and IntKind.u8 st 4 != 0) = s4) :
    Calls Trym.prog 14 #[.slice a n cap, .int .u8 st] w fun e w' => ∃ a' cap', e = .returned (.slice a' (enc s1 s2 s4 zs).length cap') ∧ Bs w' a' (enc s1 s2 s4 zs).length cap' (enc s1 s2 s4 zs) ∧ Below w.heap.size w w' := by
  obtain ⟨i0, hi, hz0, hz1, hz2⟩ := info_parts info5
  have HL : Hid (zs.length = n) := h.len
  go_enter Trym.func14, Trym.ntmps14
  go_wp2_with (at_make; refine wpList_make_own _ rfl _ _ 22 rfl w.heap.size 5 i0 (.int .u8 0) 1 Trym.underlying22 hi hz0 hz1 _ _ _ (6 * n) rfl rfl (by omega) ?b2 ?b3 (Nat.le_refl _) ?_)
  case b2 => rw [hz2]; omega
  case b3 => unfold maxLen; omega
  intro w0 hown0 hgrow0
  have hb0 : Below w.heap.size w w0 := (Below.refl _ _).grown hgrow0 (Nat.le_refl _) (fun k h => by cases h)
  clear hgrow0
  go_wp2_with fail
  go_loopw [5, 6] (fun v s wr => ∃ (k m : Nat), k ≤ n ∧ m ≤ 6 * k ∧ s = .int .i64 k ∧ v = .slice (some ⟨w.heap.size, 0, none⟩) m (6 * n) ∧ Hid ((enc s1 s2 s4 (zs.take k)).length = m) ∧
      Hid (wr.ownsRow w.heap.size 5 1 (.slice (some ⟨w.heap.size, 0, none⟩) m (6 * n)) m ((enc s1 s2 s4 (zs.take k)).map (Value.int .u8))) ∧ Below w.heap.size w wr)
    (fun _ s _ => n - (intOf s).toNat)
  case atStart => exact ⟨0, 0, Nat.zero_le _, Nat.zero_le _, rfl, rfl, rfl, hown0, hb0⟩
  case round =>
    obtain ⟨k, m, hk, hm, rfl, rfl, HM, HO, hb⟩ := hrel
    by_cases hlt : k < n
    · obtain ⟨b, off, rfl, HC⟩ := h.at (by omega)
      obtain ⟨c, HK, hck⟩ := byteAt HC hlt
      have hlb : b < w.heap.size := World.block_lt_of_cell? (h := hck)
      have hcr : wr.cell? ⟨b, off + k, none⟩ = some (.int .u8 c) := (hb.cell (p := ⟨b, off + k, none⟩) hlb).trans hck
      clear hck
      have hc255 : 0 ≤ c ∧ c ≤ 255 := by
        have : c ∈ zs := by
          rw [← HK.out]
          have hkl : k < zs.length := by rw [HL.out]; exact hlt
          simp [List.getD, List.getElem?_eq_getElem hkl]
        exact h.byte c this
      by_cases h34 : c = 34
      · subst h34
        have HE : Hid (encB s1 s2 s4 34 = [92, 34]) := by show _ = _; simp [encB]
        go_wp2_with (at_builtin; refine wpList_append_fits _ rfl (.tmp 26) (.tmp 27) 22 rfl w.heap.size 5 i0 1 Trym.underlying22 hi hz1 w.heap.size m (6 * n) _ rfl (HO.out.alloc _) ⟨wr.heap.size, 0, none⟩ 2 2 [.int .u8 92, .int .u8 34] rfl rfl (cells_new _ _ _) (map_oneCell [92, 34]) (by omega) ?_; intro w1 hown1 hgrow1)
        have ho := enc_step (news := [92, 34]) HE.out HK (by rw [HL.out]; exact hlt) hown1
        have hb1 := (hb.alloc hb.size _).grown hgrow1 (by simp; have := hb.size; omega) (fun k hk => by cases hk; exact Nat.le_refl _)
        go_roundw
        case rel => exact ⟨k + 1, m + 2, by omega, by omega, by go_num, rfl, owns_len ho, ho, hb1⟩
        case measure => simp [intOf]; omega
      have q34 : (c == 34) = false := beq_eq_false_iff_ne.2 h34
      by_cases h92 : c = 92
      · subst h92
        have HE : Hid (encB s1 s2 s4 92 = [92, 92]) := by show _ = _; simp [encB]
        clear h34
        go_wp2_with (at_builtin; refine wpList_append_fits _ rfl (.tmp 31) (.tmp 32) 22 rfl w.heap.size 5 i0 1 Trym.underlying22 hi hz1 w.heap.size m (6 * n) _ rfl (HO.out.alloc _) ⟨wr.heap.size, 0, none⟩ 2 2 [.int .u8 92, .int .u8 92] rfl rfl (cells_new _ _ _) (map_oneCell [92, 92]) (by omega) ?_; intro w1 hown1 hgrow1)
        have ho := enc_step (news := [92, 92]) HE.out HK (by rw [HL.out]; exact hlt) hown1
        have hb1 := (hb.alloc hb.size _).grown hgrow1 (by simp; have := hb.size; omega) (fun k hk => by cases hk; exact Nat.le_refl _)
        go_roundw
        case rel => exact ⟨k + 1, m + 2, by omega, by omega, by go_num, rfl, owns_len ho, ho, hb1⟩
        case measure => simp [intOf]; omega
      have q92 : (c == 92) = false := beq_eq_false_iff_ne.2 h92
      by_cases h47 : c = 47
      · subst h47
        cases s1
        · have HE : Hid (encB false s2 s4 47 = [47]) := by show _ = _; simp [encB]
          clear h34 h92
          go_wp2_with (at_builtin; refine wpList_append_fits _ rfl (.tmp 71) (.tmp 73) 22 rfl w.heap.size 5 i0 1 Trym.underlying22 hi hz1 w.heap.size m (6 * n) _ rfl (HO.out.alloc _) ⟨wr.heap.size, 0, none⟩ 1 1 [.int .u8 47] rfl rfl (cells_new _ _ _) (map_oneCell [47]) (by omega) ?_; intro w1 hown1 hgrow1)
          have ho := enc_step (news := [47]) HE.out HK (by rw [HL.out]; exact hlt) hown1
          have hb1 := (hb.alloc hb.size _).grown hgrow1 (by simp; have := hb.size; omega) (fun k hk => by cases hk; exact Nat.le_refl _)
          go_roundw
          case rel => exact ⟨k + 1, m + 1, by omega, by omega, by go_num, rfl, owns_len ho, ho, hb1⟩
          case measure => simp [intOf]; omega
        · have HE : Hid (encB true s2 s4 47 = [92, 47]) := by show _ = _; simp [encB]
          clear h34 h92
          go_wp2_with (at_builtin; refine wpList_append_fits _ rfl (.tmp 41) (.tmp 42) 22 rfl w.heap.size 5 i0 1 Trym.underlying22 hi hz1 w.heap.size m (6 * n) _ rfl (HO.out.alloc _) ⟨wr.heap.size, 0, none⟩ 2 2 [.int .u8 92, .int .u8 47] rfl rfl (cells_new _ _ _) (map_oneCell [92, 47]) (by omega) ?_; intro w1 hown1 hgrow1)
          have ho := enc_step (news := [92, 47]) HE.out HK (by rw [HL.out]; exact hlt) hown1
          have hb1 := (hb.alloc hb.size _).grown hgrow1 (by simp; have := hb.size; omega) (fun k hk => by cases hk; exact Nat.le_refl _)
          go_roundw
          case rel => exact ⟨k + 1, m + 2, by omega, by omega, by go_num, rfl, owns_len ho, ho, hb1⟩
          case measure => simp [intOf]; omega
      have q47 : (c == 47) = false := beq_eq_false_iff_ne.2 h47
      by_cases h32 : c < 32
      · have h15 := and15 c hc255.1 h32
        cases s2
        · have HE : Hid (encB s1 false s4 c = [92, 117, 48, 48, hexD s4 (c / 16), hexD s4 (c % 16)]) := by show _ = _; simp [encB, h34, h92, h47, h32]
          clear h34 h92 h47
          go_wp2_with fail
          refine (zzHex_calls (c / 16) s4 _ (by omega) (by omega)).mono ?_
          rintro e w' ⟨rfl, rfl⟩
          go_wp2_with fail
          refine (zzHex_calls (c % 16) s4 _ (by omega) (by omega)).mono ?_
          rintro e w' ⟨rfl, rfl⟩
          go_wp2_with (at_builtin; refine wpList_append_fits _ rfl (.tmp 60) (.tmp 69) 22 rfl w.heap.size 5 i0 1 Trym.underlying22 hi hz1 w.heap.size m (6 * n) _ rfl (HO.out.alloc _) ⟨_, 0, none⟩ 6 6 [.int .u8 (92), .int .u8 (117), .int .u8 (48), .int .u8 (48), .int .u8 (hexD s4 (c / 16)), .int .u8 (hexD s4 (c % 16))] rfl rfl (cells_new _ _ _) (map_oneCell [92, 117, 48, 48, hexD s4 (c / 16), hexD s4 (c % 16)]) (by omega) ?_; intro w1 hown1 hgrow1)
          have ho := enc_step (news := [92, 117, 48, 48, hexD s4 (c / 16), hexD s4 (c % 16)]) HE.out HK (by rw [HL.out]; exact hlt) hown1
          have hb1 := (hb.alloc hb.size _).grown hgrow1 (by simp; have := hb.size; omega) (fun k hk => by cases hk; exact Nat.le_refl _)
          go_roundw
          case rel => exact ⟨k + 1, m + 6, by omega, by omega, by go_num, rfl, owns_len ho, ho, hb1⟩
          case measure => simp [intOf]; omega
        · obtain ⟨sh, HS⟩ : ∃ sh, Hid (shortE c = sh) := ⟨_, rfl⟩
          by_cases hsh : sh = 0
          · subst hsh
            have HE : Hid (encB s1 true s4 c = [92, 117, 48, 48, hexD s4 (c / 16), hexD s4 (c % 16)]) := by show _ = _; simp [encB, h34, h92, h47, h32, HS.out]
            clear h34 h92 h47
            go_wp2_with fail
            refine (zzShort_to _ 0 _ HS).mono ?_
            rintro e w' ⟨rfl, rfl⟩
            go_wp2_with fail
            refine (zzHex_calls (c / 16) s4 _ (by omega) (by omega)).mono ?_
            rintro e w' ⟨rfl, rfl⟩
            go_wp2_with fail
            refine (zzHex_calls (c % 16) s4 _ (by omega) (by omega)).mono ?_
            rintro e w' ⟨rfl, rfl⟩
            go_wp2_with (at_builtin; refine wpList_append_fits _ rfl (.tmp 60) (.tmp 69) 22 rfl w.heap.size 5 i0 1 Trym.underlying22 hi hz1 w.heap.size m (6 * n) _ rfl (HO.out.alloc _) ⟨_, 0, none⟩ 6 6 [.int .u8 (92), .int .u8 (117), .int .u8 (48), .int .u8 (48), .int .u8 (hexD s4 (c / 16)), .int .u8 (hexD s4 (c % 16))] rfl rfl (cells_new _ _ _) (map_oneCell [92, 117, 48, 48, hexD s4 (c / 16), hexD s4 (c % 16)]) (by omega) ?_; intro w1 hown1 hgrow1)
            have ho := enc_step (news := [92, 117, 48, 48, hexD s4 (c / 16), hexD s4 (c % 16)]) HE.out HK (by rw [HL.out]; exact hlt) hown1
            have hb1 := (hb.alloc hb.size _).grown hgrow1 (by simp; have := hb.size; omega) (fun k hk => by cases hk; exact Nat.le_refl _)
            go_roundw
            case rel => exact ⟨k + 1, m + 6, by omega, by omega, by go_num, rfl, owns_len ho, ho, hb1⟩
            case measure => simp [intOf]; omega
          · have HE : Hid (encB s1 true s4 c = [92, sh]) := by show _ = _; simp [encB, h34, h92, h47, h32, HS.out, hsh]
            have qsh : (sh != 0) = true := by simpa using hsh
            clear h34 h92 h47 hsh
            go_wp2_with (first | (go_at_call 32; refine (zzShort_to _ sh _ HS).mono ?_; rintro e w' ⟨rfl, rfl⟩) | (at_builtin; refine wpList_append_fits _ rfl (.tmp 53) (.tmp 55) 22 rfl w.heap.size 5 i0 1 Trym.underlying22 hi hz1 w.heap.size m (6 * n) _ rfl (HO.out.alloc _) ⟨_, 0, none⟩ 2 2 [.int .u8 (92), .int .u8 (sh)] rfl rfl (cells_new _ _ _) (map_oneCell [92, sh]) (by omega) ?_; intro w1 hown1 hgrow1))
            have ho := enc_step (news := [92, sh]) HE.out HK (by rw [HL.out]; exact hlt) hown1
            have hb1 := (hb.alloc hb.size _).grown hgrow1 (by simp; have := hb.size; omega) (fun k hk => by cases hk; exact Nat.le_refl _)
            go_roundw
            case rel => exact ⟨k + 1, m + 2, by omega, by omega, by go_num, rfl, owns_len ho, ho, hb1⟩
            case measure => simp [intOf]; omega
      · have HE : Hid (encB s1 s2 s4 c = [c]) := by show _ = _; simp [encB, h34, h92, h47, h32]
        clear h34 h92 h47
        go_wp2_with (at_builtin; refine wpList_append_fits _ rfl (.tmp 71) (.tmp 73) 22 rfl w.heap.size 5 i0 1 Trym.underlying22 hi hz1 w.heap.size m (6 * n) _ rfl (HO.out.alloc _) ⟨wr.heap.size, 0, none⟩ 1 1 [.int .u8 c] rfl rfl (cells_new _ _ _) (map_oneCell [c]) (by omega) ?_; intro w1 hown1 hgrow1)
        have ho := enc_step (news := [c]) HE.out HK (by rw [HL.out]; exact hlt) hown1
        have hb1 := (hb.alloc hb.size _).grown hgrow1 (by simp; have := hb.size; omega) (fun k hk => by cases hk; exact Nat.le_refl _)
        go_roundw
        case rel => exact ⟨k + 1, m + 1, by omega, by omega, by go_num, rfl, owns_len ho, ho, hb1⟩
        case measure => simp [intOf]; omega
    · have HF : Hid (zs.take k = zs) := List.take_of_length_le (by rw [HL.out]; omega)
      go_wp2_with fail
      go_ret
      have HO' := HO.out
      have HM' := HM.out
      rw [HF.out] at HO' HM'
      rw [HM']
      exact ⟨_, _, rfl, bs_of_owns HO' (Pl.enc_byte s1 s2 s4 zs h.byte), hb⟩

/-- zzEncode, what it writes under letters. -/
theorem zzEncode_to (a : Option Addr) (n cap : Nat) (zs E : List Int) (m : Nat) (st : Int) (s1 s2 s4 : Bool) (w : World) (h : Bs w a n cap zs) (hn : n ≤ 1048576)
    (E1 : Hid ((bits BinOp.and IntKind.u8 st 1 != 0) = s1)) (E2 : Hid ((bits BinOp.and IntKind.u8 st 2 != 0) = s2)) (E4 : Hid ((bits BinOp.and IntKind.u8 st 4 != 0) = s4))
    (HE : Hid (enc s1 s2 s4 zs = E)) (HM : Hid (E.length = m)) :
    Calls Trym.prog 14 #[.slice a n cap, .int .u8 st] w fun e w' => ∃ a' cap', e = .returned (.slice a' m cap') ∧ Bs w' a' m cap' E ∧ Below w.heap.size w w' := by
  have h := zzEncode_calls a n cap zs st s1 s2 s4 w h hn E1 E2 E4
  rw [HE.out, HM.out] at h; exact h

end Go.Proofs.Qxb6001341aMods
