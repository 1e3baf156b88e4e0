/-
  THE WALK OF evtB1CloneBytes (13).
-/
import Derived.Test.Qxb6000664aMem
namespace Go.Proofs.Qxb6000664a
open Go.RowKit
set_option linter.unusedVariables false
set_option linter.unusedSimpArgs false

theorem clone_nil (w : World) : Calls Try.prog 13 #[.slice none 0 0] w fun e w' => e = .returned (.slice none 0 0) ∧ w' = w := by
  have q22 : ∀ (w : World) (a : Option Addr) (n c n' c' : Nat), (binOp .eql 22 (.slice a n c) (.slice none n' c')).run Try.prog w = .ok (.bool a.isNone) w := fun w a n c n' c' => Lib.run_eql_slice_nil w 22 5 a n c n' c' Try.underlying22
  go_enter Try.func13, Try.ntmps13
  go_wp2
  go_ret
  exact ⟨rfl, rfl⟩

/-- what a clone is: a new row of the very bytes at the head of the next block; below it nothing has turned. -/
def Cloned (w : World) (zs : List Int) (len : Nat) (w' : World) : Prop :=
  w'.ownsRow w.heap.size 5 1 (.slice (some ⟨w.heap.size, 0, none⟩) len len) len (cells8 zs) ∧ Below w.heap.size w w'

theorem clone_step {w wr : World} {zs : List Int} {len k : Nat} (hl : zs.length = len) (hk : k < len)
    (hown : wr.ownsRow w.heap.size 5 1 (.slice (some ⟨w.heap.size, 0, none⟩) len len) len (cells8 (fillK zs len k))) (hb : Below w.heap.size w wr) :
    (wr.setCell ⟨w.heap.size, k, none⟩ (.int .u8 (zs.getD k 0))).ownsRow w.heap.size 5 1 (.slice (some ⟨w.heap.size, 0, none⟩) len len) len (cells8 (fillK zs len (k + 1))) ∧
    Below w.heap.size w (wr.setCell ⟨w.heap.size, k, none⟩ (.int .u8 (zs.getD k 0))) := by
  refine ⟨?_, hb.setCell (Nat.le_refl _) _⟩
  have h := (hown.stored k (.int .u8 (zs.getD k 0))).1
  rw [cells8_set, fillK_set zs len k hl hk] at h
  exact h

set_option maxHeartbeats 1000000 in
theorem clone_some (b off len cap : Nat) (zs : List Int) (w : World) (hl : zs.length = len) (hlen : len ≤ 2000000)
    (hc : ∀ i, i < len → w.cell? ⟨b, off + i, none⟩ = some (.int .u8 (zs.getD i 0))) :
    Calls Try.prog 13 #[.slice (some ⟨b, off, none⟩) len cap] w fun e w' => e = .returned (.slice (some ⟨w.heap.size, 0, none⟩) len len) ∧ Cloned w zs len w' := by
  have q22 : ∀ (w : World) (a : Option Addr) (n c n' c' : Nat), (binOp .eql 22 (.slice a n c) (.slice none n' c')).run Try.prog w = .ok (.bool a.isNone) w := fun w a n c n' c' => Lib.run_eql_slice_nil w 22 5 a n c n' c' Try.underlying22
  obtain ⟨i0, hi, hz0, hz1, hz2⟩ := info_parts info5
  go_enter Try.func13, Try.ntmps13
  go_wp2_with (at_make; refine wpList_make_full _ rfl _ _ 22 rfl w.heap.size 5 i0 (.int .u8 0) 1 Try.underlying22 hi hz0 hz1 _ _ _ _ len rfl rfl rfl rfl ?_ ?_ (Nat.le_refl _) ?_)
  · rw [hz2]; omega
  · unfold maxLen; omega
  intro w1 hown hgrow
  have hbel : Below w.heap.size w w1 := (Below.refl _ _).grown hgrow (Nat.le_refl _) (by intro k hk; cases hk)
  rw [made8'] at hown
  clear hgrow
  go_wp2
  go_loopw [4] (fun kv wr => ∃ k : Nat, k ≤ len ∧ kv = .int .i64 k ∧ wr.ownsRow w.heap.size 5 1 (.slice (some ⟨w.heap.size, 0, none⟩) len len) len (cells8 (fillK zs len k)) ∧ Below w.heap.size w wr) (fun kv _ => len - (intOf kv).toNat)
  case atStart => exact ⟨0, Nat.zero_le _, rfl, by rw [fillK_zero]; exact hown, hbel⟩
  case round =>
    obtain ⟨k, hk, rfl, ho, hb⟩ := hrel
    clear hown hbel
    by_cases hlt : k < len
    · have hbB : b < w.heap.size := World.block_lt_of_cell? w ⟨b, off + k, none⟩ (hc k hlt)
      have hcell : wr.cell? ⟨b, off + k, none⟩ = some (.int .u8 (zs.getD k 0)) := (hb.cell (p := ⟨b, off + k, none⟩) hbB).trans (hc k hlt)
      have hfr : wr.frozen? ⟨w.heap.size, k, none⟩ = false := ho.frozenAt k
      have hold : wr.cell? ⟨w.heap.size, k, none⟩ = some (.int .u8 ((fillK zs len k).getD k 0)) := own_cell ho k hlt
      have R := clone_step hl hlt ho hb
      have HR : Hid _ := R
      clear R ho hb hc
      obtain ⟨c, hcz⟩ : ∃ c, c = zs.getD k 0 := ⟨_, rfl⟩
      obtain ⟨c', hcz'⟩ : ∃ c, c = (fillK zs len k).getD k 0 := ⟨_, rfl⟩
      rw [← hcz] at hcell HR
      rw [← hcz'] at hold
      clear hcz hcz'
      go_wp2
      go_roundw
      case rel => exact ⟨k + 1, by omega, by go_num, HR.out.1, HR.out.2⟩
      case measure => simp [intOf]; omega
    · obtain rfl : k = len := by omega
      rw [fillK_all zs k hl] at ho
      go_wp2
      go_ret
      exact ⟨rfl, ho, hb⟩

set_option maxHeartbeats 1000000 in
theorem clone_empty (x : Addr) (cap : Nat) (w : World) :
    Calls Try.prog 13 #[.slice (some x) 0 cap] w fun e w' => e = .returned (.slice (some ⟨w.heap.size, 0, none⟩) 0 0) ∧ Cloned w [] 0 w' := by
  have q22 : ∀ (w : World) (a : Option Addr) (n c n' c' : Nat), (binOp .eql 22 (.slice a n c) (.slice none n' c')).run Try.prog w = .ok (.bool a.isNone) w := fun w a n c n' c' => Lib.run_eql_slice_nil w 22 5 a n c n' c' Try.underlying22
  obtain ⟨i0, hi, hz0, hz1, hz2⟩ := info_parts info5
  go_enter Try.func13, Try.ntmps13
  go_wp2_with (at_make; refine wpList_make_full _ rfl _ _ 22 rfl w.heap.size 5 i0 (.int .u8 0) 1 Try.underlying22 hi hz0 hz1 _ _ _ _ 0 rfl rfl rfl rfl ?_ ?_ (Nat.le_refl _) ?_)
  · rw [hz2]; omega
  · unfold maxLen; omega
  intro w1 hown hgrow
  have hbel : Below w.heap.size w w1 := (Below.refl _ _).grown hgrow (Nat.le_refl _) (by intro k hk; cases hk)
  rw [made8'] at hown
  have HR : Hid (Cloned w [] 0 w1) := ⟨hown, hbel⟩
  clear hgrow hown hbel
  go_wp2
  refine wp_loop_rounds 1 ?_
  rw [rounds_succ]
  go_wp2
  go_ret
  exact ⟨rfl, HR.out⟩

/-- WHATEVER SLICE OF BYTES CAME IN. -/
theorem clone_any (a0 : Option Addr) (len cap : Nat) (z0 : List Int) (w : World)
    (h : (a0 = none ∧ len = 0 ∧ cap = 0 ∧ z0 = []) ∨ ∃ x, a0 = some x ∧ len ≤ cap ∧ cap ≤ maxLen ∧ z0.length = cap ∧ (∀ i, i < z0.length → w.cell? (x.add i) = some (.int .u8 (z0.getD i 0))) ∧ ∀ n ∈ z0, (Lit.int .u8 n).wf = true)
    (hlen : len ≤ 2000000) :
    Calls Try.prog 13 #[.slice a0 len cap] w fun e w' => (len = 0 ∧ e = .returned (.slice none 0 0) ∧ w' = w) ∨ (e = .returned (.slice (some ⟨w.heap.size, 0, none⟩) len len) ∧ Cloned w (z0.take len) len w') := by
  rcases h with ⟨rfl, rfl, rfl, rfl⟩ | ⟨x, rfl, hlc, _, hz, hcell, _⟩
  · exact (clone_nil w).mono fun e w' ⟨he, hw⟩ => .inl ⟨rfl, he, hw⟩
  · by_cases h0 : len = 0
    · subst h0
      exact (clone_empty x cap w).mono fun e w' h => .inr (by simpa using h)
    · obtain ⟨b, off, rfl, hc⟩ := ints_at hcell (by omega)
      refine (clone_some b off len cap (z0.take len) w (by simp; omega) hlen ?_).mono fun e w' h => .inr h
      intro i hi
      rw [hc i (by omega)]
      simp [hi]
end Go.Proofs.Qxb6000664a
