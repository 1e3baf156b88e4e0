/-
  PLAIN LEAN: the shape of what appendString writes. Nothing of the program.
-/
import Derived.Test.Qxb6000664aEsc
namespace Go.Proofs.Qxb6000664a.Esc

/-- how many bytes above 0x7F. -/
def hi : List Int → Nat
  | [] => 0
  | c :: l => (if 128 ≤ c then 1 else 0) + hi l

/-- is it written as it is? -/
def plain1 (c : Int) : Bool := !(decide (c < 32)) && !(c == 34) && !(c == 92)
def plain : List Int → Bool
  | [] => true
  | c :: l => plain1 c && plain l

theorem hi_append (a b : List Int) : hi (a ++ b) = hi a + hi b := by
  induction a with
  | nil => simp [hi]
  | cons c a ih => simp only [List.cons_append, hi, ih]; omega
theorem plain_append (a b : List Int) : plain (a ++ b) = (plain a && plain b) := by
  induction a with
  | nil => simp [plain]
  | cons c a ih => simp [plain, ih, Bool.and_assoc]
theorem hi_le (l : List Int) : hi l ≤ l.length := by
  induction l with
  | nil => simp [hi]
  | cons c l ih => simp only [hi, List.length_cons]; split <;> omega

theorem hi_take (bs : List Int) (k : Nat) (h : k < bs.length) : hi (bs.take (k + 1)) = hi (bs.take k) + (if 128 ≤ bs[k]?.getD 0 then 1 else 0) := by
  rw [take_succ_getD bs k h, hi_append]; simp [hi]
theorem plain_take (bs : List Int) (k : Nat) (h : k < bs.length) : plain (bs.take (k + 1)) = (plain (bs.take k) && plain1 (bs[k]?.getD 0)) := by
  rw [take_succ_getD bs k h, plain_append]; simp [plain]
theorem hi_take_le (bs : List Int) (k : Nat) : hi (bs.take k) ≤ k := by
  have h1 := hi_le (bs.take k)
  have h2 : (bs.take k).length ≤ k := List.length_take_le _ _
  omega

theorem hexD_bd (n : Int) (h0 : 0 ≤ n) (h : n < 16) : 48 ≤ hexD n ∧ hexD n ≤ 102 := by unfold hexD; split <;> omega

theorem esc_ge (c : Int) (h0 : 0 ≤ c) : ∀ x ∈ esc c, 32 ≤ x := by
  intro x hx
  unfold esc at hx
  by_cases h1 : c = 34 ∨ c = 92
  · rw [if_pos h1] at hx; simp at hx; omega
  rw [if_neg h1] at hx
  by_cases h2 : c = 8
  · rw [if_pos h2] at hx; simp at hx; omega
  rw [if_neg h2] at hx
  by_cases h3 : c = 9
  · rw [if_pos h3] at hx; simp at hx; omega
  rw [if_neg h3] at hx
  by_cases h4 : c = 10
  · rw [if_pos h4] at hx; simp at hx; omega
  rw [if_neg h4] at hx
  by_cases h5 : c = 12
  · rw [if_pos h5] at hx; simp at hx; omega
  rw [if_neg h5] at hx
  by_cases h6 : c = 13
  · rw [if_pos h6] at hx; simp at hx; omega
  rw [if_neg h6] at hx
  by_cases h7 : c < 32
  · rw [if_pos h7] at hx
    have b1 := hexD_bd (c / 16) (by omega) (by omega)
    have b2 := hexD_bd (c % 16) (by omega) (by omega)
    simp at hx
    omega
  · rw [if_neg h7] at hx; simp at hx; omega

theorem esc_hi (c : Int) (h0 : 0 ≤ c) : hi (esc c) = if 128 ≤ c then 1 else 0 := by
  by_cases h7 : 32 ≤ c ∧ ¬ c = 34 ∧ ¬ c = 92
  · rw [esc_plain h7.1 h7.2.1 h7.2.2]; simp [hi]
  · have hc : ¬ 128 ≤ c := by omega
    rw [if_neg hc]
    by_cases h1 : c = 34 ∨ c = 92
    · rw [esc_two h1]; simp [hi]; omega
    by_cases h2 : c = 8
    · subst h2; decide
    by_cases h3 : c = 9
    · subst h3; decide
    by_cases h4 : c = 10
    · subst h4; decide
    by_cases h5 : c = 12
    · subst h5; decide
    by_cases h6 : c = 13
    · subst h6; decide
    rw [esc_hex (by omega) h2 h3 h4 h5 h6]
    have b1 := hexD_bd (c / 16) (by omega) (by omega)
    have b2 := hexD_bd (c % 16) (by omega) (by omega)
    simp [hi]
    omega

theorem esc_one (c : Int) : (esc c).length = 1 ↔ plain1 c = true := by
  by_cases h7 : 32 ≤ c ∧ ¬ c = 34 ∧ ¬ c = 92
  · rw [esc_plain h7.1 h7.2.1 h7.2.2]
    simp [plain1]; omega
  · have hp : plain1 c = false := by simp [plain1]; omega
    rw [hp]
    simp only [Bool.false_eq_true, iff_false]
    by_cases h1 : c = 34 ∨ c = 92
    · rw [esc_two h1]; simp
    by_cases h2 : c = 8
    · subst h2; decide
    by_cases h3 : c = 9
    · subst h3; decide
    by_cases h4 : c = 10
    · subst h4; decide
    by_cases h5 : c = 12
    · subst h5; decide
    by_cases h6 : c = 13
    · subst h6; decide
    rw [esc_hex (by omega) h2 h3 h4 h5 h6]
    simp

theorem escs_hi (l : List Int) (h : ∀ c ∈ l, 0 ≤ c) : hi (escs l) = hi l := by
  induction l with
  | nil => rfl
  | cons c l ih =>
    rw [escs, hi_append, esc_hi c (h c (by simp)), ih (fun x hx => h x (by simp [hx]))]; rfl
theorem escs_ge (l : List Int) (h : ∀ c ∈ l, 0 ≤ c) : ∀ x ∈ escs l, 32 ≤ x := by
  induction l with
  | nil => intro x hx; simp [escs] at hx
  | cons c l ih =>
    intro x hx
    rw [escs, List.mem_append] at hx
    rcases hx with hx | hx
    · exact esc_ge c (h c (by simp)) x hx
    · exact ih (fun y hy => h y (by simp [hy])) x hx
theorem escs_one (l : List Int) : (escs l).length = l.length ↔ plain l = true := by
  induction l with
  | nil => simp [escs, plain]
  | cons c l ih =>
    have h1 := esc_len c
    have h2 := escs_len l
    have h3 := esc_one c
    simp only [escs, List.length_append, List.length_cons, plain, Bool.and_eq_true, ← ih, ← h3]
    omega

theorem quo_hi (l : List Int) (h : ∀ c ∈ l, 0 ≤ c) : hi (quo l) = hi l := by
  simp [quo, hi, hi_append, escs_hi l h]
theorem quo_ge (l : List Int) (h : ∀ c ∈ l, 0 ≤ c) (i : Nat) (hi' : i < (quo l).length) : 32 ≤ (quo l)[i]?.getD 0 := by
  have hm : ∀ x ∈ quo l, 32 ≤ x := by
    intro x hx
    simp only [quo, List.mem_cons, List.mem_append, List.not_mem_nil, or_false] at hx
    rcases hx with rfl | hx | rfl
    · omega
    · exact escs_ge l h x hx
    · omega
  rw [List.getElem?_eq_getElem hi']
  exact hm _ (List.getElem_mem hi')
theorem quo_one (l : List Int) : (quo l).length = l.length + 2 ↔ plain l = true := by
  rw [quo_len, ← escs_one]; omega
theorem quo_first (l : List Int) : (quo l)[0]?.getD 0 = 34 := by simp [quo]
theorem quo_last (l : List Int) : (quo l)[(quo l).length - 1]?.getD 0 = 34 := by
  have e : quo l = (34 :: escs l) ++ [34] := by simp [quo]
  rw [e]; simp

end Go.Proofs.Qxb6000664a.Esc
