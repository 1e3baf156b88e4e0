/-
  THE WALK OF tooDeep (31) AND OF ITS DOOR (19).
-/
import Derived.Test.Qxb6000664aRows
import Derived.Test.Qxb6000664aTd
import Derived.WalkKit
import Derived.ProofKit
import Derived.WalkSpells
import Derived.WalkLawsBesides
namespace Go.Proofs.Qxb6000664a
open Go.RowKit
set_option linter.unusedVariables false

theorem ret_int {k : IntKind} {a b : Int} (h : a = b) : Ending.returned (.int k a) = .returned (.int k b) := by rw [h]

set_option maxHeartbeats 1000000 in
theorem td31 (b off len cap : Nat) (zs : List Int) (limit : Int) (w : World) (hl : zs.length = len) (hlen : len ≤ 2000000)
    (hw1 : -9223372036854775808 ≤ limit) (hw2 : limit ≤ 9223372036854775807)
    (hc : ∀ i, i < len → w.cell? ⟨b, off + i, none⟩ = some (.int .u8 (zs.getD i 0))) :
    Calls Try.prog 31 #[.slice (some ⟨b, off, none⟩) len cap, .int .i64 limit] w fun e w' => e = .returned (.int .i64 (Td.td zs limit)) ∧ w' = w := by
  go_enter Try.func31, Try.ntmps31
  go_wp2
  go_loop [5, 6, 7, 12] (fun dv sv ev kv => ∃ (k : Nat) (d : Int) (s e : Bool), k ≤ len ∧ -k ≤ d ∧ d ≤ k ∧ dv = .int .i64 d ∧ sv = .bool s ∧ ev = .bool e ∧ kv = .int .i64 k ∧
      Hid (Td.td zs limit = Td.run limit (zs.drop k) k d s e)) (fun _ _ _ kv => len - (intOf kv).toNat)
  case atStart => exact ⟨0, 0, false, false, by omega, by omega, by omega, rfl, rfl, rfl, rfl, rfl⟩
  case round =>
    obtain ⟨k, d, s, e, hk, hd1, hd2, rfl, rfl, rfl, rfl, H⟩ := hrel
    by_cases hlt : k < len
    · obtain ⟨c, hcz⟩ : ∃ c, c = zs[k]?.getD 0 := ⟨_, rfl⟩
      have hcell : w.cell? ⟨b, off + k, none⟩ = some (.int .u8 c) := by rw [hcz, hc k hlt]; simp
      have HC : Hid (c = zs[k]?.getD 0) := hcz
      clear hcz hc
      have hkz : k < zs.length := by omega
      cases e with
      | true =>
        go_wp2
        go_round
        case rel => exact ⟨k + 1, d, s, false, by omega, by omega, by omega, rfl, rfl, rfl, by go_num, H.out.trans (Td.step_esc hkz)⟩
        case measure => simp [intOf]; omega
      | false =>
        cases s with
        | true =>
          go_wp2
          go_round
          case rel => exact ⟨k + 1, d, c != 34, c == 92, by omega, by omega, by omega, rfl, rfl, rfl, by go_num, by rw [HC.out]; exact H.out.trans (Td.step_str hkz)⟩
          case measure => simp [intOf]; omega
        | false =>
          by_cases h34 : c = 34
          · have t34 : (c == 34) = true := by simp [h34]
            have HQ : Hid (c = 34) := h34
            clear h34
            go_wp2
            go_round
            case rel => exact ⟨k + 1, d, true, false, by omega, by omega, by omega, rfl, rfl, rfl, by go_num, H.out.trans (Td.step_quo hkz (HC.out.symm.trans HQ.out))⟩
            case measure => simp [intOf]; omega
          · have t34 : (c == 34) = false := by simp [h34]
            by_cases ho : c = 91 ∨ c = 123
            · have HO : Hid (zs[k]?.getD 0 = 91 ∨ zs[k]?.getD 0 = 123) := by rw [← HC.out]; exact ho
              have tb : ((c == 91) = true) ∨ ((c == 91) = false ∧ (c == 123) = true) := by rcases ho with h | h <;> simp [h]
              clear ho h34
              rcases tb with t91 | ⟨t91, t123⟩
              all_goals
                by_cases hd : limit < d + 1
                · go_wp2
                  go_ret
                  exact ⟨ret_int (by rw [H.out]; exact (Td.step_hit hkz HO.out hd).symm), rfl⟩
                · go_wp2
                  go_round
                  case rel => exact ⟨k + 1, d + 1, false, false, by omega, by omega, by omega, rfl, rfl, rfl, by go_num, H.out.trans (Td.step_open hkz HO.out (by omega))⟩
                  case measure => simp [intOf]; omega
            · have f91 : (c == 91) = false := by simp; omega
              have f123 : (c == 123) = false := by simp; omega
              by_cases hx : c = 93 ∨ c = 125
              · have HO : Hid (zs[k]?.getD 0 = 93 ∨ zs[k]?.getD 0 = 125) := by rw [← HC.out]; exact hx
                have tb : ((c == 93) = true) ∨ ((c == 93) = false ∧ (c == 125) = true) := by rcases hx with h | h <;> simp [h]
                clear ho h34 hx
                rcases tb with t93 | ⟨t93, t125⟩
                all_goals
                  go_wp2
                  go_round
                  case rel => exact ⟨k + 1, d - 1, false, false, by omega, by omega, by omega, rfl, rfl, rfl, by go_num, H.out.trans (Td.step_close hkz HO.out)⟩
                  case measure => simp [intOf]; omega
              · have f93 : (c == 93) = false := by simp; omega
                have f125 : (c == 125) = false := by simp; omega
                have HS := Td.step_else (limit := limit) (d := d) hkz (by rw [← HC.out]; exact h34) (by rw [← HC.out]; exact ho) (by rw [← HC.out]; exact hx)
                have HS' : Hid (Td.td zs limit = Td.run limit (zs.drop (k + 1)) ((k + 1 : Nat) : Int) d false false) := H.out.trans HS
                clear HS ho h34 hx
                go_wp2
                go_round
                case rel => exact ⟨k + 1, d, false, false, by omega, by omega, by omega, rfl, rfl, rfl, by go_num, HS'⟩
                case measure => simp [intOf]; omega
    · go_wp2
      go_ret
      exact ⟨ret_int (by rw [H.out, Td.done (by omega)]), rfl⟩

/-- the door, whatever slice of which nothing is known but its cells. -/
theorem td19 (b off len cap : Nat) (zs : List Int) (limit : Int) (w : World) (hl : zs.length = len) (hlen : len ≤ 2000000)
    (hw1 : -9223372036854775808 ≤ limit) (hw2 : limit ≤ 9223372036854775807)
    (hc : ∀ i, i < len → w.cell? ⟨b, off + i, none⟩ = some (.int .u8 (zs.getD i 0))) :
    Calls Try.prog 19 #[.slice (some ⟨b, off, none⟩) len cap, .int .i64 limit] w fun e w' => e = .returned (.int .i64 (Td.td zs limit)) ∧ w' = w := by
  go_enter Try.func19, Try.ntmps19
  go_wp2_with (go_at_call 31; refine (td31 b off len cap zs limit _ hl hlen hw1 hw2 hc).mono ?_; rintro e w' ⟨rfl, rfl⟩)
  go_ret
  exact ⟨rfl, rfl⟩

theorem td19_nil (limit : Int) (w : World) :
    Calls Try.prog 19 #[.slice none 0 0, .int .i64 limit] w fun e w' => e = .returned (.int .i64 (-1)) ∧ w' = w := by
  go_enter Try.func19, Try.ntmps19
  go_wp2
  refine wp_loop_rounds 1 ?_
  rw [rounds_succ]
  go_wp2
  go_ret
  exact ⟨rfl, rfl⟩
end Go.Proofs.Qxb6000664a
