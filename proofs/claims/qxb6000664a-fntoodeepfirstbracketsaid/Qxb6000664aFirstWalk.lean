/-
  THE WALK OF FnTooDeepFirstBracket (6).
-/
import Derived.Test.Qxb6000664aTdWalk
import Derived.Test.Qxb6000664aClone
namespace Go.Proofs.Qxb6000664a.fnTooDeepFirstBracket
open Go.RowKit
set_option linter.unusedVariables false

/-- WHAT THE WALK IS TOLD OF A SLICE OF INTEGERS THAT CAME IN (the guide's own shell has it so). -/
def IsRow (k : IntKind) (w : World) (a : Option Addr) (len cap : Nat) (zs : List Int) : Prop :=
  (a = none ∧ len = 0 ∧ cap = 0 ∧ zs = []) ∨
  ∃ x, a = some x ∧ len ≤ cap ∧ cap ≤ maxLen ∧ zs.length = cap ∧ (∀ i, i < zs.length → w.cell? (x.add i) = some (.int k (zs.getD i 0))) ∧ ∀ n ∈ zs, (Lit.int k n).wf = true

set_option maxHeartbeats 1000000 in
theorem walk (a0 : Option Addr) (len0 cap0 : Nat) (z0 : List Int) (a1 : Int) (w : World) (w0 : IsRow .u8 w a0 len0 cap0 z0) (w1 : (Lit.int .i64 a1).wf = true) :
    Calls Try.prog 6 #[.slice a0 len0 cap0, .int .i64 a1] w fun e w' => e = .returned (.bool true) ∧ Below w.heap.size w w' := by
  obtain ⟨hb1, hb2⟩ := bounds_i64 w1
  by_cases hlen : len0 ≤ 1048576
  case neg =>
    go_enter Try.func6, Try.ntmps6
    go_wp2
    go_ret
    exact ⟨rfl, Below.refl _ _⟩
  go_enter Try.func6, Try.ntmps6
  go_wp2_with (first | (go_at_call 13; refine (clone_any a0 len0 cap0 z0 _ w0 (by omega)).mono ?_) | (go_at_call 18; go_in))
  rintro e w2 (⟨rfl, rfl, rfl⟩ | ⟨rfl, hcl⟩)
  · go_wp2_with (go_at_call 19; refine (td19_nil _ _).mono ?_; rintro e w' ⟨rfl, rfl⟩)
    go_ret
    exact ⟨rfl, Below.refl _ _⟩
  · obtain ⟨zs, hzs⟩ : ∃ zs, zs = z0.take len0 := ⟨_, rfl⟩
    rw [← hzs] at hcl
    clear hzs w0 w1
    obtain ⟨hown, hbel⟩ := hcl
    have hl : zs.length = len0 := own_len hown
    have hc : ∀ i, i < len0 → w2.cell? ⟨w.heap.size, 0 + i, none⟩ = some (.int .u8 (zs.getD i 0)) := fun i hi => by rw [Nat.zero_add]; exact own_cell hown i hi
    have HL : Hid (zs.length = len0) := hl
    have HC : Hid _ := hc
    clear hl hc
    rcases Td.td_first zs a1 with h | ⟨r, hr, h1, h2, h3, h4⟩
    · have H : Hid (Td.td zs a1 = -1) := h
      clear h hown
      go_wp2_with fail
      refine (td19 w.heap.size 0 len0 len0 zs a1 _ HL.out (by omega) hb1 hb2 HC.out).mono ?_
      rw [H.out]
      rintro e w' ⟨rfl, rfl⟩
      go_wp2
      go_ret
      exact ⟨rfl, hbel⟩
    · have hrl : r < len0 := by have := HL.out; omega
      have H1 : Hid (Td.td zs a1 = r) := h1
      have H3 : Hid (Td.td (zs.take r) a1 = -1) := h3
      have H4 : Hid (Td.td (zs.take (r + 1)) a1 = r) := h4
      have hcell : w2.cell? ⟨w.heap.size, r, none⟩ = some (.int .u8 (zs.getD r 0)) := own_cell hown r hrl
      have HT : Hid (∀ i, i < r → w2.cell? ⟨w.heap.size, 0 + i, none⟩ = some (.int .u8 ((zs.take r).getD i 0))) := fun i hi => by rw [HC.out i (by omega)]; simp [hi]
      have HT1 : Hid (∀ i, i < r + 1 → w2.cell? ⟨w.heap.size, 0 + i, none⟩ = some (.int .u8 ((zs.take (r + 1)).getD i 0))) := fun i hi => by rw [HC.out i (by omega)]; simp [hi]
      have ez : zs.getD r 0 = zs[r]?.getD 0 := by simp
      rw [ez] at hcell
      clear h1 h3 h4 hown ez
      rcases h2 with h2 | h2
      all_goals
        rw [h2] at hcell
        clear h2
        go_wp2_with fail
        refine (td19 w.heap.size 0 len0 len0 zs a1 _ HL.out (by omega) hb1 hb2 HC.out).mono ?_
        rw [H1.out]
        rintro e w' ⟨rfl, rfl⟩
        go_wp2_with fail
        refine (td19 w.heap.size 0 r len0 (zs.take r) a1 _ (by have := HL.out; simp; omega) (by omega) hb1 hb2 HT.out).mono ?_
        rw [H3.out]
        rintro e w' ⟨rfl, rfl⟩
        go_wp2_with fail
        refine (td19 w.heap.size 0 (r + 1) len0 (zs.take (r + 1)) a1 _ (by have := HL.out; simp; omega) (by omega) hb1 hb2 HT1.out).mono ?_
        rw [H4.out]
        rintro e w' ⟨rfl, rfl⟩
        go_wp2
        go_ret
        exact ⟨rfl, hbel⟩

end Go.Proofs.Qxb6000664a.fnTooDeepFirstBracket
