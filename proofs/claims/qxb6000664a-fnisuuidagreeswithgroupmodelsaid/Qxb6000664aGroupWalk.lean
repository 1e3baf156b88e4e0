/-
  THE WALKS OF evtB1GroupModel (26) AND OF FnIsUUIDAgreesWithGroupModel (10).
-/
import Derived.Test.Qxb6000664aUuidWalk
namespace Go.Proofs.Qxb6000664a
open Go.RowKit
set_option linter.unusedVariables false
set_option linter.unusedSimpArgs false

theorem hex24u (c x : Int) (h0 : 0 ≤ c) (h1 : c ≤ 255) (hx : hexV c = x) (w : World) : Calls Try.prog 24 #[.int .u8 c] w fun e w' => e = .returned (.int .i64 x) ∧ w = w' := by
  subst hx
  exact (hex24 c h0 h1 w).mono fun e w' ⟨he, hw⟩ => ⟨he, hw.symm⟩

theorem want_cell (w : World) (g : Nat) (hg : g ≤ 4) : (w.alloc (.cells #[.int .i64 8, .int .i64 4, .int .i64 4, .int .i64 4, .int .i64 12] 43)).cell? ⟨w.heap.size, g, none⟩ = some (.int .i64 (want g : Nat)) := by
  rw [World.cell?_alloc_at _ _ _ _ rfl]
  rcases five hg with rfl | rfl | rfl | rfl | rfl <;> rfl
theorem want_bd (g : Nat) : 4 ≤ want g ∧ want g ≤ 12 := by
  unfold want
  repeat' split
  all_goals omega

set_option maxRecDepth 20000 in
set_option maxHeartbeats 2000000 in
theorem gm26 (s : ByteArray) (hs : s.size ≤ 65536) (w : World) : Calls Try.prog 26 #[.string s] w fun e w' => e = .returned (.bool (gmFrom (bytesU s) 0 0)) ∧ Below w.heap.size w w' := by
  obtain ⟨R, hR⟩ : ∃ R, gmFrom (bytesU s) 0 0 = R := ⟨_, rfl⟩
  rw [hR]
  have HR : Hid (gmFrom (bytesU s) 0 0 = R) := hR
  have HBL : Hid ((bytesU s).length = s.size) := bytesU_length s
  have HCW : Hid (∀ g, g ≤ 4 → (w.alloc (.cells #[.int .i64 8, .int .i64 4, .int .i64 4, .int .i64 4, .int .i64 12] 43)).cell? ⟨w.heap.size, g, none⟩ = some (.int .i64 (want g : Nat))) := want_cell w
  have HB : Hid (Below w.heap.size w (w.alloc (.cells #[.int .i64 8, .int .i64 4, .int .i64 4, .int .i64 4, .int .i64 12] 43))) := (Below.refl _ _).alloc (Nat.le_refl _) _
  clear hR
  go_enter Try.func26, Try.ntmps26
  go_wp2
  generalize w.alloc (.cells #[.int .i64 8, .int .i64 4, .int .i64 4, .int .i64 4, .int .i64 12] 43) = w1 at HCW HB ⊢
  go_loop [4, 5, 6] (fun gv cv kv => ∃ k g cur : Nat, k ≤ s.size ∧ g ≤ 4 ∧ Hid (cur ≤ want g) ∧ gv = .int .i64 g ∧ cv = .int .i64 cur ∧ kv = .int .i64 k ∧ Hid (gmFrom ((bytesU s).drop k) g cur = R)) (fun _ _ kv => s.size - (intOf kv).toNat)
  case atStart => exact ⟨0, 0, 0, by omega, by omega, Nat.zero_le _, rfl, rfl, rfl, HR⟩
  case round =>
    obtain ⟨k, g, cur, hk, hg, HCU, rfl, rfl, rfl, HK⟩ := hrel
    clear HR
    have hcell := HCW.out g hg
    have hwb := want_bd g
    have hcu := HCU.out
    obtain ⟨wg, hwg⟩ : ∃ x, x = want g := ⟨_, rfl⟩
    rw [← hwg] at hcell hwb hcu
    have HWG : Hid (wg = want g) := hwg
    obtain ⟨hwb1, hwb2⟩ := hwb
    clear hwg HCU
    by_cases hlt : k < s.size
    · have hkb : k < (bytesU s).length := by rw [HBL.out]; exact hlt
      have HAT : Hid ((bytesU s)[k]?.getD 0 = (s[k].toNat : Int)) := bytesU_at s k hlt
      have hbd := UInt8.toNat_lt s[k]
      by_cases h45 : (s[k].toNat : Int) = 45
      · have HC : Hid ((bytesU s)[k]?.getD 0 = 45) := by show _ = _; rw [HAT.out]; exact h45
        have t45 : ((s[k].toNat : Int) == 45) = true := by simp [h45]
        clear h45 HAT
        by_cases hg4 : 4 ≤ g
        · have HN : Hid (R = false) := by show _ = _; rw [← HK.out]; exact gm_hyph_bad hkb HC.out (.inl hg4)
          have g4 : (4 : Int) ≤ (g : Int) := by omega
          clear HK HC
          go_wp2
          go_ret
          exact ⟨ret_b HN.out.symm, HB.out⟩
        · have g4 : ¬ (4 : Int) ≤ (g : Int) := by omega
          by_cases hcw : cur = wg
          · have HN : Hid (gmFrom ((bytesU s).drop (k + 1)) (g + 1) 0 = R) := by show _ = _; rw [← HK.out]; exact (gm_hyph hkb HC.out (by have := HWG.out; omega)).symm
            have tc : ((cur : Int) != (wg : Int)) = false := by simp [hcw]
            clear HK HC hcw
            go_wp2
            go_round
            case rel => exact ⟨k + 1, g + 1, 0, by omega, by omega, Nat.zero_le _, by go_num, rfl, by go_num, HN⟩
            case measure => simp [intOf]; omega
          · have HN : Hid (R = false) := by show _ = _; rw [← HK.out]; exact gm_hyph_bad hkb HC.out (.inr (by rw [← HWG.out]; exact hcw))
            have tc : ((cur : Int) != (wg : Int)) = true := by simp; omega
            clear HK HC hcw
            go_wp2
            go_ret
            exact ⟨ret_b HN.out.symm, HB.out⟩
      · have HC : Hid (¬ (bytesU s)[k]?.getD 0 = 45) := by show ¬ _; rw [HAT.out]; exact h45
        have t45 : ((s[k].toNat : Int) == 45) = false := by simpa using h45
        clear h45
        obtain ⟨x, hx⟩ : ∃ x, hexV (s[k].toNat : Int) = x := ⟨_, rfl⟩
        have hxb := hexV_bd (s[k].toNat : Int)
        have hxB : hexB (s[k].toNat : Int) = decide (0 ≤ x) := by unfold hexB; rw [hx]
        rw [hx] at hxb
        have HX : Hid (hexV (s[k].toNat : Int) = x) := hx
        clear hx
        by_cases hx0 : 0 ≤ x
        · have HXB : Hid (hexB ((bytesU s)[k]?.getD 0) = true) := by show _ = _; rw [HAT.out, hxB]; simpa using hx0
          clear hxB HAT
          by_cases hf : wg < cur + 1
          · have HN : Hid (R = false) := by show _ = _; rw [← HK.out]; exact gm_hex_bad hkb HC.out HXB.out (by rw [← HWG.out]; exact hf)
            clear HK HC HXB
            go_wp2_with (go_at_call 24; refine (hex24u _ x (by omega) (by omega) HX.out _).mono ?_; rintro e w' ⟨rfl, rfl⟩)
            go_ret
            exact ⟨ret_b HN.out.symm, HB.out⟩
          · have HN : Hid (gmFrom ((bytesU s).drop (k + 1)) g (cur + 1) = R) := by show _ = _; rw [← HK.out]; exact (gm_hex hkb HC.out HXB.out (by rw [← HWG.out]; exact hf)).symm
            have HCU : Hid (cur + 1 ≤ want g) := by show _ ≤ _; rw [← HWG.out]; omega
            clear HK HC HXB
            go_wp2_with (go_at_call 24; refine (hex24u _ x (by omega) (by omega) HX.out _).mono ?_; rintro e w' ⟨rfl, rfl⟩)
            go_round
            case rel => exact ⟨k + 1, g, cur + 1, by omega, hg, HCU, rfl, by go_num, by go_num, HN⟩
            case measure => simp [intOf]; omega
        · have HXB : Hid (hexB ((bytesU s)[k]?.getD 0) = false) := by show _ = _; rw [HAT.out, hxB]; simpa using hx0
          have HN : Hid (R = false) := by show _ = _; rw [← HK.out]; exact gm_other hkb HC.out HXB.out
          clear HK HC HXB hxB HAT
          go_wp2_with (go_at_call 24; refine (hex24u _ x (by omega) (by omega) HX.out _).mono ?_; rintro e w' ⟨rfl, rfl⟩)
          go_ret
          exact ⟨ret_b HN.out.symm, HB.out⟩
    · have HN : Hid (R = (g == 4 && cur == 12)) := by show _ = _; rw [← HK.out]; exact gm_end (by rw [HBL.out]; omega) g cur
      clear HK
      go_wp2
      all_goals
        go_ret
        exact ⟨ret_b (by rw [HN.out, Bool.eq_iff_iff]; simp; try omega), HB.out⟩
namespace fnIsUUIDAgreesWithGroupModel
theorem walk (a0 : ByteArray) (w0 : a0.size ≤ maxLen) (w : World) :
    Calls Try.prog 10 #[.string a0] w fun e w' => e = .returned (.bool true) ∧ Below w.heap.size w w' := by
  unfold maxLen at w0
  by_cases h0 : a0.size ≤ 65536
  case neg =>
    go_enter Try.func10, Try.ntmps10
    go_wp2
    all_goals
      go_ret
      exact ⟨rfl, Below.refl _ _⟩
  have HA : Hid (uuidB (bytesU a0) = gmFrom (bytesU a0) 0 0) := agree _
  go_enter Try.func10, Try.ntmps10
  go_wp2_with (first | (go_at_call 25; go_in) | (go_at_call 23; refine (isu23 a0 w0 _).mono ?_; rintro e w' ⟨rfl, rfl⟩) | (go_at_call 26; refine (gm26 a0 h0 _).mono ?_; rintro e w' ⟨rfl, hb⟩))
  go_ret
  exact ⟨ret_b (by rw [HA.out]; simp), hb⟩
end fnIsUUIDAgreesWithGroupModel
end Go.Proofs.Qxb6000664a
