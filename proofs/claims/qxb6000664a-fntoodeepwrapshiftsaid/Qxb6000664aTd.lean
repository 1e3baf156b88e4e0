/-
  PLAIN LEAN: what tooDeep computes over a list of bytes, and the laws on it. Nothing of the program.
-/
namespace Go.Proofs.Qxb6000664a.Td

/-- tooDeep's loop: what is left of the bytes, the offset, the depth, inString, escaped. -/
def run (limit : Int) : List Int → Int → Int → Bool → Bool → Int
  | [], _, _, _, _ => -1
  | b :: bs, i, d, s, e =>
    if e = true then run limit bs (i + 1) d s false
    else if s = true then run limit bs (i + 1) d (b != 34) (b == 92)
    else if b = 34 then run limit bs (i + 1) d true false
    else if b = 91 ∨ b = 123 then (if limit < d + 1 then i else run limit bs (i + 1) (d + 1) false false)
    else if b = 93 ∨ b = 125 then run limit bs (i + 1) (d - 1) false false
    else run limit bs (i + 1) d false false

def td (zs : List Int) (limit : Int) : Int := run limit zs 0 0 false false

/-! the steps, a lemma a way -/
section
variable {limit : Int} {zs : List Int} {k : Nat} {d : Int} {s e : Bool}

theorem drop_at (hk : k < zs.length) : zs.drop k = zs[k]?.getD 0 :: zs.drop (k + 1) := by
  rw [List.drop_eq_getElem_cons hk]
  simp [hk]

theorem done (hk : zs.length ≤ k) (i : Int) : run limit (zs.drop k) i d s e = -1 := by
  rw [List.drop_of_length_le hk]; rfl

theorem step_esc (hk : k < zs.length) : run limit (zs.drop k) k d s true = run limit (zs.drop (k + 1)) ((k + 1 : Nat) : Int) d s false := by
  rw [drop_at hk]; simp [run]
theorem step_str (hk : k < zs.length) : run limit (zs.drop k) k d true false = run limit (zs.drop (k + 1)) ((k + 1 : Nat) : Int) d (zs[k]?.getD 0 != 34) (zs[k]?.getD 0 == 92) := by
  rw [drop_at hk]; simp [run]
theorem step_quo (hk : k < zs.length) (h : zs[k]?.getD 0 = 34) : run limit (zs.drop k) k d false false = run limit (zs.drop (k + 1)) ((k + 1 : Nat) : Int) d true false := by
  rw [drop_at hk]; simp [run, h]
theorem step_open (hk : k < zs.length) (h : zs[k]?.getD 0 = 91 ∨ zs[k]?.getD 0 = 123) (hl : d + 1 ≤ limit) : run limit (zs.drop k) k d false false = run limit (zs.drop (k + 1)) ((k + 1 : Nat) : Int) (d + 1) false false := by
  have h1 : ¬ zs[k]?.getD 0 = 34 := by omega
  have h2 : ¬ limit < d + 1 := by omega
  rw [drop_at hk]; simp [run, h, h1, h2]
theorem step_hit (hk : k < zs.length) (h : zs[k]?.getD 0 = 91 ∨ zs[k]?.getD 0 = 123) (hl : limit < d + 1) : run limit (zs.drop k) k d false false = k := by
  have h1 : ¬ zs[k]?.getD 0 = 34 := by omega
  rw [drop_at hk]; simp [run, h, h1, hl]
theorem step_close (hk : k < zs.length) (h : zs[k]?.getD 0 = 93 ∨ zs[k]?.getD 0 = 125) : run limit (zs.drop k) k d false false = run limit (zs.drop (k + 1)) ((k + 1 : Nat) : Int) (d - 1) false false := by
  have h1 : ¬ zs[k]?.getD 0 = 34 := by omega
  have h2 : ¬ (zs[k]?.getD 0 = 91 ∨ zs[k]?.getD 0 = 123) := by omega
  rw [drop_at hk]; simp [run, h, h1, h2]
theorem step_else (hk : k < zs.length) (h1 : ¬ zs[k]?.getD 0 = 34) (h2 : ¬ (zs[k]?.getD 0 = 91 ∨ zs[k]?.getD 0 = 123)) (h3 : ¬ (zs[k]?.getD 0 = 93 ∨ zs[k]?.getD 0 = 125)) :
    run limit (zs.drop k) k d false false = run limit (zs.drop (k + 1)) ((k + 1 : Nat) : Int) d false false := by
  rw [drop_at hk]; simp [run, h1, h2, h3]
end

/-! the laws -/

/-- the answer: -1, or an offset where a bracket stands; the bytes ahead of it hold none; through it: the same. -/
theorem run_first (limit : Int) : ∀ (zs : List Int) (i d : Int) (s e : Bool), run limit zs i d s e = -1 ∨
    ∃ r : Nat, r < zs.length ∧ run limit zs i d s e = i + r ∧ (zs[r]?.getD 0 = 91 ∨ zs[r]?.getD 0 = 123) ∧ run limit (zs.take r) i d s e = -1 ∧ run limit (zs.take (r + 1)) i d s e = i + r := by
  intro zs
  induction zs with
  | nil => intro i d s e; left; rfl
  | cons b bs ih =>
    intro i d s e
    have lift : ∀ (d' : Int) (s' e' : Bool), (∀ l, run limit (b :: l) i d s e = run limit l (i + 1) d' s' e') →
        (run limit (b :: bs) i d s e = -1 ∨ ∃ r : Nat, r < (b :: bs).length ∧ run limit (b :: bs) i d s e = i + r ∧ ((b :: bs)[r]?.getD 0 = 91 ∨ (b :: bs)[r]?.getD 0 = 123) ∧
          run limit ((b :: bs).take r) i d s e = -1 ∧ run limit ((b :: bs).take (r + 1)) i d s e = i + r) := by
      intro d' s' e' hst
      rcases ih (i + 1) d' s' e' with h | ⟨r, h1, h2, h3, h4, h5⟩
      · left; rw [hst]; exact h
      · right
        refine ⟨r + 1, by simp; omega, ?_, by simpa using h3, ?_, ?_⟩
        · rw [hst, h2]; simp only [Int.natCast_add, Int.natCast_one]; omega
        · rw [List.take_succ_cons, hst]; exact h4
        · rw [List.take_succ_cons, hst, h5]; simp only [Int.natCast_add, Int.natCast_one]; omega
    by_cases he : e = true
    · exact lift d s false fun l => by simp [run, he]
    by_cases hs : s = true
    · exact lift d (b != 34) (b == 92) fun l => by simp [run, he, hs]
    by_cases hq : b = 34
    · exact lift d true false fun l => by simp [run, he, hs, hq]
    by_cases ho : b = 91 ∨ b = 123
    · by_cases hl : limit < d + 1
      · right
        refine ⟨0, by simp, by simp [run, he, hs, hq, ho, hl], by simpa using ho, by simp [run], by simp [run, he, hs, hq, ho, hl]⟩
      · exact lift (d + 1) false false fun l => by simp [run, he, hs, hq, ho, hl]
    by_cases hc : b = 93 ∨ b = 125
    · exact lift (d - 1) false false fun l => by simp [run, he, hs, hq, ho, hc]
    · exact lift d false false fun l => by simp [run, he, hs, hq, ho, hc]

theorem td_first (zs : List Int) (limit : Int) : td zs limit = -1 ∨
    ∃ r : Nat, r < zs.length ∧ td zs limit = r ∧ (zs[r]?.getD 0 = 91 ∨ zs[r]?.getD 0 = 123) ∧ td (zs.take r) limit = -1 ∧ td (zs.take (r + 1)) limit = r := by
  rcases run_first limit zs 0 0 false false with h | ⟨r, h1, h2, h3, h4, h5⟩
  · exact .inl h
  · exact .inr ⟨r, h1, by unfold td; omega, h3, h4, by unfold td; omega⟩

/-- a trailing closing bracket, one more of limit and of depth, and the offsets moved by one. -/
theorem run_shift (limit : Int) : ∀ (zs : List Int) (i d : Int) (s e : Bool), 0 ≤ i →
    (run limit zs i d s e = -1 → run (limit + 1) (zs ++ [93]) (i + 1) (d + 1) s e = -1) ∧ (run limit zs i d s e ≠ -1 → run (limit + 1) (zs ++ [93]) (i + 1) (d + 1) s e = run limit zs i d s e + 1) := by
  intro zs
  induction zs with
  | nil =>
    intro i d s e _
    refine ⟨fun _ => ?_, fun h => absurd rfl h⟩
    cases e <;> cases s <;> simp [run]
  | cons b bs ih =>
    intro i d s e hi
    have go : ∀ (d' : Int) (s' e' : Bool), run limit (b :: bs) i d s e = run limit bs (i + 1) d' s' e' → run (limit + 1) (b :: (bs ++ [93])) (i + 1) (d + 1) s e = run (limit + 1) (bs ++ [93]) (i + 1 + 1) (d' + 1) s' e' →
        (run limit (b :: bs) i d s e = -1 → run (limit + 1) (b :: bs ++ [93]) (i + 1) (d + 1) s e = -1) ∧ (run limit (b :: bs) i d s e ≠ -1 → run (limit + 1) (b :: bs ++ [93]) (i + 1) (d + 1) s e = run limit (b :: bs) i d s e + 1) := by
      intro d' s' e' h1 h2
      rw [List.cons_append, h1, h2]
      exact ih (i + 1) d' s' e' (by omega)
    by_cases he : e = true
    · exact go d s false (by simp [run, he]) (by simp [run, he])
    by_cases hs : s = true
    · exact go d (b != 34) (b == 92) (by simp [run, he, hs]) (by simp [run, he, hs])
    by_cases hq : b = 34
    · exact go d true false (by simp [run, he, hs, hq]) (by simp [run, he, hs, hq])
    by_cases ho : b = 91 ∨ b = 123
    · by_cases hl : limit < d + 1
      · have hl2 : limit + 1 < d + 1 + 1 := by omega
        have e1 : run limit (b :: bs) i d s e = i := by simp [run, he, hs, hq, ho, hl]
        have e2 : run (limit + 1) (b :: bs ++ [93]) (i + 1) (d + 1) s e = i + 1 := by simp [run, he, hs, hq, ho, hl2]
        rw [e1, e2]
        exact ⟨fun h => by omega, fun _ => rfl⟩
      · have hl2 : ¬ limit + 1 < d + 1 + 1 := by omega
        exact go (d + 1) false false (by simp [run, he, hs, hq, ho, hl]) (by simp [run, he, hs, hq, ho, hl2])
    by_cases hc : b = 93 ∨ b = 125
    · exact go (d - 1) false false (by simp [run, he, hs, hq, ho, hc]) (by
        have e3 : d - 1 + 1 = d + 1 - 1 := by omega
        simp [run, he, hs, hq, ho, hc, e3])
    · exact go d false false (by simp [run, he, hs, hq, ho, hc]) (by simp [run, he, hs, hq, ho, hc])

theorem td_wrap_neg (zs : List Int) (limit : Int) (h : limit < 0) : td (91 :: (zs ++ [93])) (limit + 1) = 0 := by
  have h1 : limit + 1 < 0 + 1 := by omega
  simp [td, run]; omega

theorem td_wrap (zs : List Int) (limit : Int) (h : 0 ≤ limit) :
    (td zs limit = -1 → td (91 :: (zs ++ [93])) (limit + 1) = -1) ∧ (td zs limit ≠ -1 → td (91 :: (zs ++ [93])) (limit + 1) = td zs limit + 1) := by
  have e1 : td (91 :: (zs ++ [93])) (limit + 1) = run (limit + 1) (zs ++ [93]) (0 + 1) (0 + 1) false false := by
    have h1 : ¬ limit + 1 < 0 + 1 := by omega
    simp [td, run]; omega
  rw [e1]
  exact run_shift limit zs 0 0 false false (by omega)

theorem td_range (zs : List Int) (limit : Int) : -1 ≤ td zs limit ∧ td zs limit < zs.length := by
  rcases td_first zs limit with h | ⟨r, h1, h2, _⟩ <;> omega

end Go.Proofs.Qxb6000664a.Td
