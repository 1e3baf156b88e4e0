/-
  PLAIN LEAN: what appendString writes. Nothing of the program.
-/
namespace Go.Proofs.Qxb6000664a.Esc

/-- a hexadecimal digit, lower case. -/
def hexD (n : Int) : Int := if n < 10 then 48 + n else 87 + n

/-- what one byte is written as. -/
def esc (c : Int) : List Int :=
  if c = 34 ∨ c = 92 then [92, c]
  else if c = 8 then [92, 98]
  else if c = 9 then [92, 116]
  else if c = 10 then [92, 110]
  else if c = 12 then [92, 102]
  else if c = 13 then [92, 114]
  else if c < 32 then [92, 117, 48, 48, hexD (c / 16), hexD (c % 16)]
  else [c]

def escs : List Int → List Int
  | [] => []
  | c :: l => esc c ++ escs l

/-- the quoted form. -/
def quo (l : List Int) : List Int := 34 :: (escs l ++ [34])

theorem escs_append (a b : List Int) : escs (a ++ b) = escs a ++ escs b := by
  induction a with
  | nil => rfl
  | cons c a ih => simp [escs, ih]

theorem esc_len (c : Int) : 1 ≤ (esc c).length ∧ (esc c).length ≤ 6 := by
  unfold esc
  repeat' split
  all_goals (simp only [List.length_cons, List.length_nil]; omega)

theorem escs_len (l : List Int) : l.length ≤ (escs l).length ∧ (escs l).length ≤ 6 * l.length := by
  induction l with
  | nil => simp [escs]
  | cons c l ih => have := esc_len c; simp only [escs, List.length_append, List.length_cons]; omega

theorem quo_len (l : List Int) : (quo l).length = (escs l).length + 2 := by simp [quo]

theorem take_succ_getD (bs : List Int) (k : Nat) (h : k < bs.length) : bs.take (k + 1) = bs.take k ++ [bs[k]?.getD 0] := by
  rw [List.take_succ_eq_append_getElem h]; simp [h]

theorem escs_take (bs : List Int) (k : Nat) (h : k < bs.length) : escs (bs.take (k + 1)) = escs (bs.take k) ++ esc (bs[k]?.getD 0) := by
  rw [take_succ_getD bs k h, escs_append]; simp [escs]

theorem seg_succ (bs : List Int) (p k : Nat) (hp : p ≤ k) (h : k < bs.length) : (bs.drop p).take (k + 1 - p) = (bs.drop p).take (k - p) ++ [bs[k]?.getD 0] := by
  have e : k + 1 - p = (k - p) + 1 := by omega
  rw [e, take_succ_getD (bs.drop p) (k - p) (by simp; omega)]
  have e2 : p + (k - p) = k := by omega
  simp [List.getElem?_drop, e2]

/-! what each way of the round does: T: what stood ahead (dst's bytes and the opening quote); L: what is written by now -/
section
variable {bs T L : List Int} {p k : Nat}

theorem rel_plain (hp : p ≤ k) (hk : k < bs.length) (hc : esc (bs[k]?.getD 0) = [bs[k]?.getD 0]) (h : L ++ (bs.drop p).take (k - p) = T ++ escs (bs.take k)) :
    L ++ (bs.drop p).take (k + 1 - p) = T ++ escs (bs.take (k + 1)) := by
  rw [seg_succ bs p k hp hk, escs_take bs k hk, hc, ← List.append_assoc, h, List.append_assoc]

theorem rel_esc (hk : k < bs.length) (h : L ++ (bs.drop p).take (k - p) = T ++ escs (bs.take k)) :
    ((L ++ (bs.drop p).take (k - p)) ++ esc (bs[k]?.getD 0)) ++ (bs.drop (k + 1)).take (k + 1 - (k + 1)) = T ++ escs (bs.take (k + 1)) := by
  rw [h, escs_take bs k hk]; simp

theorem rel_len (h : L ++ (bs.drop p).take (k - p) = T ++ escs (bs.take k)) (hk : k ≤ bs.length) : L.length + ((bs.drop p).take (k - p)).length ≤ T.length + 6 * k := by
  have e := congrArg List.length h
  have := (escs_len (bs.take k)).2
  simp only [List.length_append, List.length_take] at e this ⊢
  omega

theorem rel_end (h : L ++ (bs.drop p).take (bs.length - p) = T ++ escs (bs.take bs.length)) : L ++ bs.drop p = T ++ escs bs := by
  rw [List.take_of_length_le (by simp), List.take_of_length_le (by simp)] at h
  exact h
end

theorem esc_plain {c : Int} (h1 : 32 ≤ c) (h2 : ¬ c = 34) (h3 : ¬ c = 92) : esc c = [c] := by
  unfold esc
  rw [if_neg (by omega), if_neg (by omega), if_neg (by omega), if_neg (by omega), if_neg (by omega), if_neg (by omega), if_neg (by omega)]
theorem esc_two {c : Int} (h : c = 34 ∨ c = 92) : esc c = [92, c] := by unfold esc; rw [if_pos h]
theorem esc_hex {c : Int} (h : c < 32) (h1 : ¬ c = 8) (h2 : ¬ c = 9) (h3 : ¬ c = 10) (h4 : ¬ c = 12) (h5 : ¬ c = 13) : esc c = [92, 117, 48, 48, hexD (c / 16), hexD (c % 16)] := by
  unfold esc
  rw [if_neg (by omega), if_neg h1, if_neg h2, if_neg h3, if_neg h4, if_neg h5, if_pos h]

end Go.Proofs.Qxb6000664a.Esc
