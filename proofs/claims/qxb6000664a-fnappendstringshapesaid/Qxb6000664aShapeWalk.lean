/-
  THE WALK OF FnAppendStringShape (5).
-/
import Derived.Test.Qxb6000664aAppWalk
import Derived.Test.Qxb6000664aShape
namespace Go.Proofs.Qxb6000664a.fnAppendStringShape
open Go.RowKit
set_option linter.unusedVariables false
set_option linter.unusedSimpArgs false

theorem ret_bool {a b : Bool} (h : a = b) : Ending.returned (.bool a) = .returned (.bool b) := by rw [h]

set_option maxRecDepth 20000 in
set_option maxHeartbeats 1000000 in
theorem walk (a0 : ByteArray) (w0 : a0.size ≤ maxLen) (w : World) :
    Calls Try.prog 5 #[.string a0] w fun e w' => e = .returned (.bool true) ∧ Below w.heap.size w w' := by
  unfold maxLen at w0
  by_cases h0 : a0.size ≤ 65536
  case neg =>
    go_enter Try.func5, Try.ntmps5
    go_wp2
    all_goals
      go_ret
      exact ⟨rfl, Below.refl _ _⟩
  obtain ⟨bs, hbs⟩ : ∃ bs, bytesI a0 = bs := ⟨_, rfl⟩
  obtain ⟨Q, hQ⟩ : ∃ Q, Esc.quo (bytesI a0) = Q := ⟨_, rfl⟩
  obtain ⟨l, hl⟩ : ∃ l, Q.length = l := ⟨_, rfl⟩
  have hpos : ∀ c ∈ bs, 0 ≤ c := fun c hc => (bytesI_bd a0 c (by rw [hbs]; exact hc)).1
  have hbl : bs.length = a0.size := by rw [← hbs]; exact bytesI_length a0
  rw [hbs] at hQ
  have hb1 : a0.size + 2 ≤ l := by have e1 := Esc.quo_len bs; have e2 := Esc.escs_len bs; rw [hQ, hl] at e1; omega
  have hb2 : l ≤ 6 * a0.size + 2 := by have e1 := Esc.quo_len bs; have e2 := Esc.escs_len bs; rw [hQ, hl] at e1; omega
  have HG : Hid (∀ i, i < l → 32 ≤ Q[i]?.getD 0) := fun i hi => by rw [← hQ]; exact Esc.quo_ge bs hpos i (by rw [hQ, hl]; exact hi)
  have HH : Hid (Esc.hi Q = Esc.hi bs) := by rw [← hQ]; exact Esc.quo_hi bs hpos
  have HO : Hid (l = a0.size + 2 ↔ Esc.plain bs = true) := by
    have h := Esc.quo_one bs
    rw [hQ, hl, hbl] at h
    exact h
  have HF : Hid (Q[0]?.getD 0 = 34) := by rw [← hQ]; exact Esc.quo_first bs
  have HZ : Hid (Q[l - 1]?.getD 0 = 34) := by rw [← hl, ← hQ]; exact Esc.quo_last bs
  have HL : Hid (Q.length = l) := hl
  have HBL : Hid (bs.length = a0.size) := hbl
  have HBS : Hid (bytesI a0 = bs) := hbs
  have HQ : Hid (Esc.quo (bytesI a0) = Q) := by show _ = _; rw [hbs]; exact hQ
  clear hpos hbs hQ hl hbl
  go_enter Try.func5, Try.ntmps5
  go_wp2_with (first | (go_at_call 17; go_in) | (go_at_call 14; refine (app14_q a0 Q l _ (by omega) HQ.out HL.out).mono ?_))
  rintro e w1 ⟨g, cp, rfl, hg1, hg2, hg3, hg4⟩
  have HB : Hid (Below w.heap.size w w1) := hg3
  have HC : Hid (∀ i, i < l → w1.cell? ⟨g, i, none⟩ = some (.int .u8 (Q[i]?.getD 0))) := fun i hi => by rw [hg4 i hi]; simp
  clear hg1 hg2 hg3 hg4
  have c0 : w1.cell? ⟨g, 0, none⟩ = some (.int .u8 34) := by rw [← HF.out]; exact HC.out 0 (by omega)
  have c1 : w1.cell? ⟨g, l - 1, none⟩ = some (.int .u8 34) := by rw [← HZ.out]; exact HC.out (l - 1) (by omega)
  have n1 : ¬ (l : Int) < (a0.size : Int) + 2 := by omega
  have n2 : ¬ 6 * (a0.size : Int) + 2 < (l : Int) := by omega
  go_wp2
  go_loop [4, 5] (fun nv kv => ∃ k : Nat, k ≤ l ∧ kv = .int .i64 k ∧ nv = .int .i64 (Esc.hi (Q.take k) : Nat)) (fun _ kv => l - (intOf kv).toNat)
  case atStart => exact ⟨0, Nat.zero_le _, rfl, rfl⟩
  case round =>
    obtain ⟨k, hk, rfl, rfl⟩ := hrel
    by_cases hlt : k < l
    · have hc := HC.out k hlt
      have hge := HG.out k hlt
      have hht := Esc.hi_take Q k (by have := HL.out; omega)
      have hle := Esc.hi_take_le Q k
      obtain ⟨x, hx⟩ : ∃ x, x = Q[k]?.getD 0 := ⟨_, rfl⟩
      rw [← hx] at hc hge hht
      have HHT : Hid (Esc.hi (Q.take (k + 1)) = Esc.hi (Q.take k) + (if 128 ≤ x then 1 else 0)) := hht
      clear hht hx c0 c1
      obtain ⟨m, hm⟩ : ∃ m, m = Esc.hi (Q.take k) := ⟨_, rfl⟩
      rw [← hm] at hle HHT ⊢
      clear hm
      by_cases hhi : 128 ≤ x
      · go_wp2
        go_round
        case rel => exact ⟨k + 1, by omega, by go_num, by rw [HHT.out, if_pos hhi]; go_num⟩
        case measure => simp [intOf]; omega
      · go_wp2
        go_round
        case rel => exact ⟨k + 1, by omega, by go_num, by rw [HHT.out, if_neg hhi]; go_num⟩
        case measure => simp [intOf]; omega
    · obtain rfl : k = l := by omega
      have eQ : Q.take k = Q := List.take_of_length_le (by have := HL.out; omega)
      rw [eQ, HH.out]
      have hhb := Esc.hi_le bs
      rw [HBL.out] at hhb
      obtain ⟨H, hH⟩ : ∃ H, H = Esc.hi bs := ⟨_, rfl⟩
      rw [← hH] at hhb ⊢
      have HHH : Hid (H = Esc.hi bs) := hH
      clear eQ hH c0 c1 HG HC HF HZ
      go_wp2
      go_loop [6, 7, 8] (fun pv nv kv => ∃ j : Nat, j ≤ a0.size ∧ kv = .int .i64 j ∧ nv = .int .i64 (Esc.hi (bs.take j) : Nat) ∧ pv = .bool (Esc.plain (bs.take j))) (fun _ _ kv => a0.size - (intOf kv).toNat)
      case atStart => exact ⟨0, Nat.zero_le _, rfl, rfl, rfl⟩
      case round =>
        obtain ⟨j, hj, rfl, rfl, rfl⟩ := hrel
        by_cases hlt2 : j < a0.size
        · have hbj : j < bs.length := by rw [HBL.out]; exact hlt2
          have hht := Esc.hi_take bs j hbj
          have hpt := Esc.plain_take bs j hbj
          have hle := Esc.hi_take_le bs j
          have hx := bytesI_at a0 j hlt2
          rw [HBS.out] at hx
          rw [hx] at hht hpt
          have HHT : Hid (Esc.hi (bs.take (j + 1)) = Esc.hi (bs.take j) + (if 128 ≤ (a0[j].toNat : Int) then 1 else 0)) := hht
          have HPT : Hid (Esc.plain (bs.take (j + 1)) = (Esc.plain (bs.take j) && Esc.plain1 (a0[j].toNat : Int))) := hpt
          clear hht hpt hx
          obtain ⟨m, hm⟩ : ∃ m, m = Esc.hi (bs.take j) := ⟨_, rfl⟩
          obtain ⟨q, hq⟩ : ∃ q, q = Esc.plain (bs.take j) := ⟨_, rfl⟩
          rw [← hm] at hle HHT ⊢
          rw [← hq] at HPT ⊢
          clear hm hq
          by_cases hlo : (a0[j].toNat : Int) < 32
          · have hp1 : Esc.plain1 (a0[j].toNat : Int) = false := by simp [Esc.plain1, hlo]
            have HP : Hid (Esc.plain (bs.take (j + 1)) = false) := by show _ = _; rw [HPT.out, hp1]; simp
            have HI : Hid (Esc.hi (bs.take (j + 1)) = m) := by show _ = _; rw [HHT.out, if_neg (by omega)]; rfl
            clear hp1 HPT HHT
            go_wp2
            go_round
            case rel => exact ⟨j + 1, by omega, by go_num, by rw [HI.out], by rw [HP.out]⟩
            case measure => simp [intOf]; omega
          · by_cases h34 : (a0[j].toNat : Int) = 34
            · have hp1 : Esc.plain1 (a0[j].toNat : Int) = false := by rw [h34]; rfl
              have HP : Hid (Esc.plain (bs.take (j + 1)) = false) := by show _ = _; rw [HPT.out, hp1]; simp
              have HI : Hid (Esc.hi (bs.take (j + 1)) = m) := by show _ = _; rw [HHT.out, if_neg (by omega)]; rfl
              clear hp1 HPT HHT hlo
              go_wp2
              go_round
              case rel => exact ⟨j + 1, by omega, by go_num, by rw [HI.out], by rw [HP.out]⟩
              case measure => simp [intOf]; omega
            by_cases h92 : (a0[j].toNat : Int) = 92
            · have hp1 : Esc.plain1 (a0[j].toNat : Int) = false := by rw [h92]; rfl
              have HP : Hid (Esc.plain (bs.take (j + 1)) = false) := by show _ = _; rw [HPT.out, hp1]; simp
              have HI : Hid (Esc.hi (bs.take (j + 1)) = m) := by show _ = _; rw [HHT.out, if_neg (by omega)]; rfl
              clear hp1 HPT HHT hlo h34
              go_wp2
              go_round
              case rel => exact ⟨j + 1, by omega, by go_num, by rw [HI.out], by rw [HP.out]⟩
              case measure => simp [intOf]; omega
            have hp1 : Esc.plain1 (a0[j].toNat : Int) = true := by simp [Esc.plain1]; omega
            have HP : Hid (Esc.plain (bs.take (j + 1)) = q) := by show _ = _; rw [HPT.out, hp1]; simp
            have t34 : ((a0[j].toNat : Int) == 34) = false := by simpa using h34
            have t92 : ((a0[j].toNat : Int) == 92) = false := by simpa using h92
            by_cases hhi : 128 ≤ (a0[j].toNat : Int)
            · have HI : Hid (Esc.hi (bs.take (j + 1)) = m + 1) := by show _ = _; rw [HHT.out, if_pos hhi]
              clear hp1 HPT HHT h34 h92
              go_wp2
              go_round
              case rel => exact ⟨j + 1, by omega, by go_num, by rw [HI.out]; go_num, by rw [HP.out]⟩
              case measure => simp [intOf]; omega
            · have HI : Hid (Esc.hi (bs.take (j + 1)) = m) := by show _ = _; rw [HHT.out, if_neg hhi]; rfl
              clear hp1 HPT HHT h34 h92
              go_wp2
              go_round
              case rel => exact ⟨j + 1, by omega, by go_num, by rw [HI.out], by rw [HP.out]⟩
              case measure => simp [intOf]; omega
        · obtain rfl : j = a0.size := by omega
          have eB : bs.take a0.size = bs := List.take_of_length_le (by rw [HBL.out]; omega)
          rw [eB, ← HHH.out]
          clear eB
          have HE : Hid (((k : Int) == (a0.size : Int) + 2) = Esc.plain bs) := by
            have h := HO.out
            rw [Hid, Bool.eq_iff_iff, ← h, beq_iff_eq]
            omega
          go_wp2
          go_ret
          exact ⟨ret_bool (by rw [HE.out]; simp), HB.out⟩
end Go.Proofs.Qxb6000664a.fnAppendStringShape
