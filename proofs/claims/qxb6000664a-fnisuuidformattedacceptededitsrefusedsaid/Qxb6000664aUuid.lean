/-
  PLAIN LEAN: what isUUID and the group model compute over a list of bytes, and that they agree.
-/
import Derived.Test.Qxb6000664aHex
namespace Go.Proofs.Qxb6000664a
set_option linter.unusedSimpArgs false

def hyph (i : Nat) : Bool := i == 8 || i == 13 || i == 18 || i == 23
/-- what byte i must be. -/
def uuidAt (i : Nat) (c : Int) : Bool := if hyph i = true then c == 45 else hexB c
def uuidFrom : Nat → List Int → Bool
  | _, [] => true
  | i, c :: l => uuidAt i c && uuidFrom (i + 1) l
def uuidB (bs : List Int) : Bool := bs.length == 36 && uuidFrom 0 bs

/-- the groups' lengths, and where each begins. -/
def want (g : Nat) : Nat := if g = 0 then 8 else if g = 4 then 12 else 4
def start (g : Nat) : Nat := if g = 0 then 0 else 4 + 5 * g
def gmFrom : List Int → Nat → Nat → Bool
  | [], g, cur => g == 4 && cur == 12
  | c :: l, g, cur =>
    if c = 45 then (if 4 ≤ g ∨ cur ≠ want g then false else gmFrom l (g + 1) 0)
    else if hexB c = true then (if want g < cur + 1 then false else gmFrom l g (cur + 1)) else false

theorem hexB_hyph : hexB 45 = false := by decide

theorem five {g : Nat} (h : g ≤ 4) : g = 0 ∨ g = 1 ∨ g = 2 ∨ g = 3 ∨ g = 4 := by omega

theorem hyph_full {g cur : Nat} (hg : g < 4) (hc : cur = want g) : hyph (start g + cur) = true := by
  subst hc
  rcases five (Nat.le_of_lt hg) with rfl | rfl | rfl | rfl | rfl <;> first | decide | omega
theorem hyph_part {g cur : Nat} (hg : g ≤ 4) (hc : cur < want g) : hyph (start g + cur) = false := by
  rcases five hg with rfl | rfl | rfl | rfl | rfl <;> (simp [want] at hc; simp [hyph, start]; omega)
theorem hyph_last {cur : Nat} (hc : cur ≤ want 4) : hyph (start 4 + cur) = false := by
  simp [want] at hc; simp [hyph, start]; omega
theorem start_next {g : Nat} (hg : g < 4) : start g + want g + 1 = start (g + 1) := by
  rcases five (Nat.le_of_lt hg) with rfl | rfl | rfl | rfl | rfl <;> first | rfl | omega
theorem start_end {g cur : Nat} (hg : g ≤ 4) (hc : cur ≤ want g) : (start g + cur = 36) ↔ (g = 4 ∧ cur = 12) := by
  rcases five hg with rfl | rfl | rfl | rfl | rfl <;> (simp [want] at hc; simp [start]; try omega)

theorem gm_uuid : ∀ (l : List Int) (g cur : Nat), g ≤ 4 → cur ≤ want g → gmFrom l g cur = (decide (l.length + (start g + cur) = 36) && uuidFrom (start g + cur) l)
  | [], g, cur, hg, hc => by
    have h := start_end hg hc
    simp only [gmFrom, uuidFrom, List.length_nil, Nat.zero_add, Bool.and_true]
    rw [Bool.eq_iff_iff]
    simp [h]
  | c :: l, g, cur, hg, hc => by
    rw [gmFrom, uuidFrom]
    by_cases h45 : c = 45
    · subst h45
      rw [if_pos rfl]
      by_cases hbad : 4 ≤ g ∨ cur ≠ want g
      · rw [if_pos hbad]
        have hh : hyph (start g + cur) = false := by
          by_cases hf : cur = want g
          · have : g = 4 := by omega
            subst this
            exact hyph_last hc
          · exact hyph_part hg (by omega)
        simp [uuidAt, hh, hexB_hyph]
      · have hg4 : g < 4 := by omega
        have hcw : cur = want g := by omega
        rw [if_neg hbad, gm_uuid l (g + 1) 0 (by omega) (by omega)]
        have hh := hyph_full hg4 hcw
        have hs := start_next hg4
        have e1 : start (g + 1) + 0 = start g + cur + 1 := by omega
        rw [e1]
        have e2 : (45 :: l).length + (start g + cur) = l.length + (start g + cur + 1) := by simp; omega
        rw [e2]
        simp [uuidAt, hh]
    · rw [if_neg h45]
      by_cases hx : hexB c = true
      · rw [if_pos hx]
        by_cases hf : want g < cur + 1
        · rw [if_pos hf]
          have hcw : cur = want g := by omega
          by_cases hg4 : g < 4
          · have hh := hyph_full hg4 hcw
            simp [uuidAt, hh, h45]
          · have : g = 4 := by omega
            subst this
            have e : start 4 + cur = 36 := (start_end (by omega) hc).2 ⟨rfl, hcw⟩
            simp [e]
        · rw [if_neg hf, gm_uuid l g (cur + 1) hg (by omega)]
          have hh := hyph_part hg (show cur < want g by omega)
          have e1 : start g + (cur + 1) = start g + cur + 1 := by omega
          rw [e1]
          have e2 : (c :: l).length + (start g + cur) = l.length + (start g + cur + 1) := by simp; omega
          rw [e2]
          simp [uuidAt, hh, hx]
      · rw [if_neg hx]
        have ha : uuidAt (start g + cur) c = false := by
          unfold uuidAt
          by_cases hh : hyph (start g + cur) = true
          · rw [if_pos hh]; simpa using h45
          · rw [if_neg hh]; simpa using hx
        simp [ha]

theorem agree (bs : List Int) : uuidB bs = gmFrom bs 0 0 := by
  rw [gm_uuid bs 0 0 (by omega) (by omega)]
  simp only [uuidB, start, if_true, Nat.add_zero]
  rw [Bool.beq_eq_decide_eq]

/-! the steps of the loops -/
section
variable {bs : List Int} {k : Nat}
theorem drop_getD (hk : k < bs.length) : bs.drop k = bs[k]?.getD 0 :: bs.drop (k + 1) := by
  rw [List.drop_eq_getElem_cons hk]; simp [hk]
theorem uuid_step (hk : k < bs.length) : uuidFrom k (bs.drop k) = (uuidAt k (bs[k]?.getD 0) && uuidFrom (k + 1) (bs.drop (k + 1))) := by
  rw [drop_getD hk, uuidFrom]
theorem uuid_end (hk : bs.length ≤ k) : uuidFrom k (bs.drop k) = true := by
  rw [List.drop_of_length_le hk, uuidFrom]
theorem gm_end (hk : bs.length ≤ k) (g cur : Nat) : gmFrom (bs.drop k) g cur = (g == 4 && cur == 12) := by
  rw [List.drop_of_length_le hk, gmFrom]
theorem gm_hyph_bad {g cur : Nat} (hk : k < bs.length) (h : bs[k]?.getD 0 = 45) (hb : 4 ≤ g ∨ cur ≠ want g) : gmFrom (bs.drop k) g cur = false := by
  rw [drop_getD hk, gmFrom, if_pos h, if_pos hb]
theorem gm_hyph {g cur : Nat} (hk : k < bs.length) (h : bs[k]?.getD 0 = 45) (hb : ¬ (4 ≤ g ∨ cur ≠ want g)) : gmFrom (bs.drop k) g cur = gmFrom (bs.drop (k + 1)) (g + 1) 0 := by
  rw [drop_getD hk, gmFrom, if_pos h, if_neg hb]
theorem gm_hex_bad {g cur : Nat} (hk : k < bs.length) (h : ¬ bs[k]?.getD 0 = 45) (hx : hexB (bs[k]?.getD 0) = true) (hb : want g < cur + 1) : gmFrom (bs.drop k) g cur = false := by
  rw [drop_getD hk, gmFrom, if_neg h, if_pos hx, if_pos hb]
theorem gm_hex {g cur : Nat} (hk : k < bs.length) (h : ¬ bs[k]?.getD 0 = 45) (hx : hexB (bs[k]?.getD 0) = true) (hb : ¬ want g < cur + 1) : gmFrom (bs.drop k) g cur = gmFrom (bs.drop (k + 1)) g (cur + 1) := by
  rw [drop_getD hk, gmFrom, if_neg h, if_pos hx, if_neg hb]
theorem gm_other {g cur : Nat} (hk : k < bs.length) (h : ¬ bs[k]?.getD 0 = 45) (hx : hexB (bs[k]?.getD 0) = false) : gmFrom (bs.drop k) g cur = false := by
  rw [drop_getD hk, gmFrom, if_neg h, if_neg (by simp [hx])]
end
end Go.Proofs.Qxb6000664a
