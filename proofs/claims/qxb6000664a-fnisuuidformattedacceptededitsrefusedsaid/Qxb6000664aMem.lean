/-
  PLAIN LEAN AND SMALL FACTS ON WORLDS: rows of bytes that the call owns.
-/
import Derived.Test.Qxb6000664aRows
import Derived.WalkKit
import Derived.ProofKit
import Derived.OpenShut
import Derived.WalkSpells
import Derived.WalkLawsBesides
import Derived.Lib.SliceRun
import Derived.Lib.AppendStr
import Derived.ArgAppend
namespace Go.Proofs.Qxb6000664a
open Go.RowKit
set_option linter.unusedVariables false
set_option linter.unusedSimpArgs false

/-- bytes as cells -/
abbrev cells8 (zs : List Int) : List Value := zs.map (Value.int .u8)

theorem info5 : (Try.prog.info? 5).map (fun i => (i.zero, i.size, i.bytes)) = some (some (.int .u8 0), 1, 1) := by kernel_rfl

/-- the first k of zs, then noughts up to len. -/
def fillK (zs : List Int) (len k : Nat) : List Int := zs.take k ++ List.replicate (len - k) 0

theorem fillK_zero (zs : List Int) (len : Nat) : fillK zs len 0 = List.replicate len 0 := by simp [fillK]
theorem fillK_all (zs : List Int) (len : Nat) (h : zs.length = len) : fillK zs len len = zs := by simp [fillK, List.take_of_length_le (Nat.le_of_eq h)]
theorem fillK_length (zs : List Int) (len k : Nat) (h : zs.length = len) (hk : k ≤ len) : (fillK zs len k).length = len := by simp [fillK]; omega
theorem fillK_set (zs : List Int) (len k : Nat) (h : zs.length = len) (hk : k < len) : (fillK zs len k).set k (zs.getD k 0) = fillK zs len (k + 1) := by
  apply List.ext_getElem?
  intro j
  simp only [fillK, List.getElem?_set, List.getElem?_append, List.length_take, List.getElem?_replicate, List.length_append, List.length_replicate, List.getElem?_take]
  have e1 : min k zs.length = k := by omega
  have e2 : min (k + 1) zs.length = k + 1 := by omega
  rw [e1, e2]
  by_cases h1 : k = j
  · subst h1
    have h3 : k < zs.length := by omega
    simp [hk, h3]
    omega
  · by_cases h2 : j < k
    · have : j < k + 1 := by omega
      simp [h1, h2, this]
    · have h3 : ¬ j < k + 1 := by omega
      simp [h1, h2, h3]
      by_cases h4 : j < len
      · have h5 : j - k < len - k := by omega
        have h6 : j - (k + 1) < len - (k + 1) := by omega
        simp [h5, h6]
      · have h5 : ¬ j - k < len - k := by omega
        have h6 : ¬ j - (k + 1) < len - (k + 1) := by omega
        simp [h5, h6]
theorem cells8_set (zs : List Int) (k : Nat) (c : Int) : (cells8 zs).set k (.int .u8 c) = cells8 (zs.set k c) := by simp [cells8]

theorem made8 (n : Nat) : (madeCells (Value.int .u8 0).cells (n * 1)).toList = cells8 (List.replicate n 0) := by
  have : (Value.int .u8 0).cells = #[.int .u8 0] := rfl
  rw [this, toList_madeCells_one, Nat.mul_one]; simp [cells8]

theorem made8' (n : Nat) : (madeCells #[Value.int .u8 0] n).toList = cells8 (List.replicate n 0) := by
  rw [toList_madeCells_one]; simp [cells8]

/-- what an owned row of bytes reads as, cell by cell. -/
theorem own_cell {w : World} {base g n cap : Nat} {zs : List Int} (h : w.ownsRow base 5 1 (.slice (some ⟨g, 0, none⟩) n cap) n (cells8 zs)) (j : Nat) (hj : j < n) :
    w.cell? ⟨g, j, none⟩ = some (.int .u8 (zs.getD j 0)) := by
  have hl : zs.length = n := by have := h.1; simpa using this
  rw [h.cellAt j (by omega)]
  simp [show j < zs.length by omega]
theorem own_len {w : World} {base n : Nat} {v : Value} {zs : List Int} (h : w.ownsRow base 5 1 v n (cells8 zs)) : zs.length = n := by have := h.1; simpa using this

end Go.Proofs.Qxb6000664a
