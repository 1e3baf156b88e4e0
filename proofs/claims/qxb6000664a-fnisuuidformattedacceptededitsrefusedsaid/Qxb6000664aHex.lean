/-
  THE WALKS OF evtB1HexVal (24), isDigit (35), isHexDigit (34).
-/
import Derived.Test.Qxb6000664aRows
import Derived.WalkKit
import Derived.WalkSpells
import Derived.WalkLawsBesides
namespace Go.Proofs.Qxb6000664a
open Go.RowKit
set_option linter.unusedVariables false
set_option linter.unusedSimpArgs false

/-- the digit's value, or -1. -/
def hexV (c : Int) : Int := if 48 ≤ c ∧ c ≤ 57 then c - 48 else if 97 ≤ c ∧ c ≤ 102 then c - 87 else if 65 ≤ c ∧ c ≤ 70 then c - 55 else -1
/-- is it a hexadecimal digit? -/
def hexB (c : Int) : Bool := decide (0 ≤ hexV c)

theorem hexV_d {c : Int} (h : 48 ≤ c ∧ c ≤ 57) : hexV c = c - 48 := by unfold hexV; rw [if_pos h]
theorem hexV_a {c : Int} (h : 97 ≤ c ∧ c ≤ 102) : hexV c = c - 87 := by unfold hexV; rw [if_neg (by omega), if_pos h]
theorem hexV_A {c : Int} (h : 65 ≤ c ∧ c ≤ 70) : hexV c = c - 55 := by unfold hexV; rw [if_neg (by omega), if_neg (by omega), if_pos h]
theorem hexV_no {c : Int} (h : ¬ ((48 ≤ c ∧ c ≤ 57) ∨ (97 ≤ c ∧ c ≤ 102) ∨ (65 ≤ c ∧ c ≤ 70))) : hexV c = -1 := by
  unfold hexV; rw [if_neg (by omega), if_neg (by omega), if_neg (by omega)]
theorem hexV_bd (c : Int) : -1 ≤ hexV c ∧ hexV c ≤ 15 := by
  by_cases h1 : 48 ≤ c ∧ c ≤ 57
  · rw [hexV_d h1]; omega
  by_cases h2 : 97 ≤ c ∧ c ≤ 102
  · rw [hexV_a h2]; omega
  by_cases h3 : 65 ≤ c ∧ c ≤ 70
  · rw [hexV_A h3]; omega
  · rw [hexV_no (by omega)]; omega
theorem hexB_true {c : Int} (h : (48 ≤ c ∧ c ≤ 57) ∨ (97 ≤ c ∧ c ≤ 102) ∨ (65 ≤ c ∧ c ≤ 70)) : hexB c = true := by
  unfold hexB
  rcases h with h | h | h
  · rw [hexV_d h]; simp; omega
  · rw [hexV_a h]; simp; omega
  · rw [hexV_A h]; simp; omega
theorem hexB_false {c : Int} (h : ¬ ((48 ≤ c ∧ c ≤ 57) ∨ (97 ≤ c ∧ c ≤ 102) ∨ (65 ≤ c ∧ c ≤ 70))) : hexB c = false := by
  unfold hexB; rw [hexV_no h]; decide
theorem ret_i {k : IntKind} {a b : Int} (h : a = b) : Ending.returned (.int k a) = .returned (.int k b) := by rw [h]
theorem ret_b {a b : Bool} (h : a = b) : Ending.returned (.bool a) = .returned (.bool b) := by rw [h]

set_option maxHeartbeats 1000000 in
theorem hex24 (c : Int) (h0 : 0 ≤ c) (h1 : c ≤ 255) (w : World) : Calls Try.prog 24 #[.int .u8 c] w fun e w' => e = .returned (.int .i64 (hexV c)) ∧ w' = w := by
  by_cases d : 48 ≤ c ∧ c ≤ 57
  · have e : hexV c = c - 48 := by unfold hexV; rw [if_pos d]
    rw [e]; clear e
    obtain ⟨d1, d2⟩ := d
    go_enter Try.func24, Try.ntmps24
    go_wp2
    go_ret
    exact ⟨rfl, rfl⟩
  by_cases a : 97 ≤ c ∧ c ≤ 102
  · have e : hexV c = c - 87 := by unfold hexV; rw [if_neg d, if_pos a]
    rw [e]; clear e d
    obtain ⟨d1, d2⟩ := a
    go_enter Try.func24, Try.ntmps24
    go_wp2
    go_ret
    exact ⟨ret_i (by omega), rfl⟩
  by_cases b : 65 ≤ c ∧ c ≤ 70
  · have e : hexV c = c - 55 := by unfold hexV; rw [if_neg d, if_neg a, if_pos b]
    rw [e]; clear e d a
    obtain ⟨d1, d2⟩ := b
    go_enter Try.func24, Try.ntmps24
    go_wp2
    go_ret
    exact ⟨ret_i (by omega), rfl⟩
  · have e : hexV c = -1 := by unfold hexV; rw [if_neg d, if_neg a, if_neg b]
    rw [e]; clear e
    go_enter Try.func24, Try.ntmps24
    go_wp2
    all_goals first | (exfalso; omega) | skip
    all_goals
      go_ret
      exact ⟨rfl, rfl⟩

set_option maxHeartbeats 1000000 in
theorem hex34 (c : Int) (h0 : 0 ≤ c) (h1 : c ≤ 255) (w : World) : Calls Try.prog 34 #[.int .u8 c] w fun e w' => e = .returned (.bool (hexB c)) ∧ w' = w := by
  by_cases d : 48 ≤ c ∧ c ≤ 57
  · rw [hexB_true (.inl d)]
    obtain ⟨d1, d2⟩ := d
    go_enter Try.func34, Try.ntmps34
    go_wp2
    go_ret
    exact ⟨ret_b (by simp; try omega), rfl⟩
  by_cases a : 97 ≤ c ∧ c ≤ 102
  · rw [hexB_true (.inr (.inl a))]
    obtain ⟨d1, d2⟩ := a
    clear d
    have t1 : ¬ c ≤ 57 := by omega
    go_enter Try.func34, Try.ntmps34
    go_wp2
    go_ret
    exact ⟨ret_b (by simp; try omega), rfl⟩
  by_cases b : 65 ≤ c ∧ c ≤ 70
  · rw [hexB_true (.inr (.inr b))]
    obtain ⟨d1, d2⟩ := b
    clear d a
    have t1 : ¬ c ≤ 57 := by omega
    have t2 : ¬ 97 ≤ c := by omega
    go_enter Try.func34, Try.ntmps34
    go_wp2
    go_ret
    exact ⟨ret_b (by simp; try omega), rfl⟩
  · rw [hexB_false (by omega)]
    go_enter Try.func34, Try.ntmps34
    go_wp2
    all_goals
      go_ret
      exact ⟨ret_b (by simp; try omega), rfl⟩
end Go.Proofs.Qxb6000664a
