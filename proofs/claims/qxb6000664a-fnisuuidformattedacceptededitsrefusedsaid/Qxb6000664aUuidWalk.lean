/-
  THE WALKS OF isUUID (33), ITS DOOR (23).
-/
import Derived.Test.Qxb6000664aUuid
namespace Go.Proofs.Qxb6000664a
open Go.RowKit
set_option linter.unusedVariables false
set_option linter.unusedSimpArgs false

/-- a string's bytes as numbers. -/
def bytesU (s : ByteArray) : List Int := s.data.toList.map fun b => (b.toNat : Int)
theorem bytesU_length (s : ByteArray) : (bytesU s).length = s.size := by simp [bytesU]
theorem bytesU_at (s : ByteArray) (k : Nat) (h : k < s.size) : (bytesU s)[k]?.getD 0 = (s[k].toNat : Int) := by
  have h' : k < s.data.size := h
  have e : s[k] = s.data[k] := rfl
  rw [e, bytesU, List.getElem?_map, Array.getElem?_toList, Array.getElem?_eq_getElem h']
  rfl

theorem hex34v (c : Int) (x : Bool) (h0 : 0 ≤ c) (h1 : c ≤ 255) (hx : hexB c = x) (w : World) : Calls Try.prog 34 #[.int .u8 c] w fun e w' => e = .returned (.bool x) ∧ w = w' := by
  subst hx
  exact (hex34 c h0 h1 w).mono fun e w' ⟨he, hw⟩ => ⟨he, hw.symm⟩

set_option maxRecDepth 20000 in
set_option maxHeartbeats 1000000 in
theorem isu33 (s : ByteArray) (hs : s.size ≤ 9223372036854775807) (w : World) : Calls Try.prog 33 #[.string s] w fun e w' => e = .returned (.bool (uuidB (bytesU s))) ∧ w = w' := by
  by_cases h36 : s.size = 36
  case neg =>
    have e : uuidB (bytesU s) = false := by simp [uuidB, bytesU_length, h36]
    rw [e]; clear e
    have t : ((s.size : Int) != 36) = true := by simp; omega
    clear h36
    go_enter Try.func33, Try.ntmps33
    go_wp2
    go_ret
    exact ⟨rfl, rfl⟩
  have e : uuidB (bytesU s) = uuidFrom 0 (bytesU s) := by simp [uuidB, bytesU_length, h36]
  have hbl : (bytesU s).length = 36 := by rw [bytesU_length]; exact h36
  obtain ⟨R, hR⟩ : ∃ R, uuidFrom 0 (bytesU s) = R := ⟨_, rfl⟩
  rw [e, hR]
  have HR : Hid (uuidFrom 0 (bytesU s) = R) := hR
  have HBL : Hid ((bytesU s).length = 36) := hbl
  have t : ((s.size : Int) != 36) = false := by simp; omega
  have l1 : s.size ≤ 36 := by omega
  have l2 : 36 ≤ s.size := by omega
  clear e hR hbl h36 hs
  go_enter Try.func33, Try.ntmps33
  go_wp2
  go_loop [3] (fun kv => ∃ k : Nat, k ≤ 36 ∧ kv = .int .i64 k ∧ Hid (uuidFrom k ((bytesU s).drop k) = R)) (fun kv => 36 - (intOf kv).toNat)
  case atStart => exact ⟨0, by omega, rfl, HR⟩
  case round =>
    obtain ⟨k, hk, rfl, HK⟩ := hrel
    clear HR
    by_cases hlt : k < 36
    · have hks : k < s.size := by omega
      have hst := uuid_step (bs := bytesU s) (k := k) (by rw [HBL.out]; exact hlt)
      rw [bytesU_at s k hks, HK.out] at hst
      have HST : Hid (R = (uuidAt k (s[k].toNat : Int) && uuidFrom (k + 1) ((bytesU s).drop (k + 1)))) := hst
      have hbd := UInt8.toNat_lt s[k]
      clear hst HK
      by_cases hh : k = 8 ∨ k = 13 ∨ k = 18 ∨ k = 23
      · have hhy : hyph k = true := by rcases hh with rfl | rfl | rfl | rfl <;> rfl
        by_cases h45 : (s[k].toNat : Int) = 45
        · have HN : Hid (uuidFrom (k + 1) ((bytesU s).drop (k + 1)) = R) := by
            show _ = _; rw [HST.out]; simp [uuidAt, hhy, h45]
          have t45 : ((s[k].toNat : Int) != 45) = false := by simp [h45]
          clear HST hhy h45
          rcases hh with rfl | rfl | rfl | rfl
          all_goals
            go_wp2
            go_round
            case rel => exact ⟨_, by decide, rfl, HN⟩
            case measure => simp [intOf]
        · have HN : Hid (R = false) := by
            show _ = _; rw [HST.out]; simp [uuidAt, hhy, h45]
          have t45 : ((s[k].toNat : Int) != 45) = true := by simpa using h45
          clear HST hhy h45
          rcases hh with rfl | rfl | rfl | rfl
          all_goals
            go_wp2
            go_ret
            exact ⟨ret_b HN.out.symm, rfl⟩
      · have hhy : hyph k = false := by simp [hyph]; omega
        have f8 : ((k : Int) == 8) = false := by simp; omega
        have f13 : ((k : Int) == 13) = false := by simp; omega
        have f18 : ((k : Int) == 18) = false := by simp; omega
        have f23 : ((k : Int) == 23) = false := by simp; omega
        by_cases hx : hexB (s[k].toNat : Int) = true
        · have HN : Hid (uuidFrom (k + 1) ((bytesU s).drop (k + 1)) = R) := by
            show _ = _; rw [HST.out]; simp [uuidAt, hhy, hx]
          have HX : Hid (hexB (s[k].toNat : Int) = true) := hx
          clear HST hhy hx hh
          go_wp2_with (go_at_call 34; refine (hex34v _ true (by omega) (by omega) HX.out _).mono ?_; rintro e w' ⟨rfl, rfl⟩)
          go_round
          case rel => exact ⟨k + 1, by omega, by go_num, HN⟩
          case measure => simp [intOf]; omega
        · have hx' : hexB (s[k].toNat : Int) = false := by simpa using hx
          have HN : Hid (R = false) := by
            show _ = _; rw [HST.out]; simp [uuidAt, hhy, hx']
          have HX : Hid (hexB (s[k].toNat : Int) = false) := hx'
          clear HST hhy hx hx' hh
          go_wp2_with (go_at_call 34; refine (hex34v _ false (by omega) (by omega) HX.out _).mono ?_; rintro e w' ⟨rfl, rfl⟩)
          go_ret
          exact ⟨ret_b HN.out.symm, rfl⟩
    · obtain rfl : k = 36 := by omega
      rw [Hid, uuid_end (by rw [HBL.out]; omega)] at HK
      subst HK
      go_wp2
      go_ret
      exact ⟨rfl, rfl⟩

theorem isu23 (s : ByteArray) (hs : s.size ≤ 9223372036854775807) (w : World) : Calls Try.prog 23 #[.string s] w fun e w' => e = .returned (.bool (uuidB (bytesU s))) ∧ w = w' := by
  go_enter Try.func23, Try.ntmps23
  go_wp2_with (go_at_call 33; refine (isu33 s hs _).mono ?_; rintro e w' ⟨rfl, rfl⟩)
  go_ret
  exact ⟨rfl, rfl⟩
end Go.Proofs.Qxb6000664a
