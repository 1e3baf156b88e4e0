/-
  THE WALK OF FnTooDeepWrapShift (8).
-/
import Derived.Test.Qxb6000664aTdWalk
import Derived.Test.Qxb6000664aClone
namespace Go.Proofs.Qxb6000664a.fnTooDeepWrapShift
open Go.RowKit
set_option linter.unusedVariables false
set_option linter.unusedSimpArgs false

/-- WHAT THE WALK IS TOLD OF A SLICE OF INTEGERS THAT CAME IN (the guide's own shell has it so). -/
def IsRow (k : IntKind) (w : World) (a : Option Addr) (len cap : Nat) (zs : List Int) : Prop :=
  (a = none ∧ len = 0 ∧ cap = 0 ∧ zs = []) ∨
  ∃ x, a = some x ∧ len ≤ cap ∧ cap ≤ maxLen ∧ zs.length = cap ∧ (∀ i, i < zs.length → w.cell? (x.add i) = some (.int k (zs.getD i 0))) ∧ ∀ n ∈ zs, (Lit.int k n).wf = true

/-- the wrapped text with its first k bytes laid. -/
def wrapK (zs : List Int) (k : Nat) : List Int := 91 :: fillK (zs ++ [93]) (zs.length + 1) k

theorem wrapK_start (zs : List Int) : (List.replicate (zs.length + 2) 0).set 0 91 = wrapK zs 0 := by
  rw [wrapK, fillK_zero, List.replicate_succ, List.set_cons_zero]
theorem wrapK_step (zs : List Int) (k : Nat) (hk : k < zs.length) : (wrapK zs k).set (k + 1) (zs.getD k 0) = wrapK zs (k + 1) := by
  have e : zs.getD k 0 = (zs ++ [93]).getD k 0 := by simp [List.getElem?_append, hk]
  rw [wrapK, List.set_cons_succ, e, fillK_set _ _ k (by simp) (by omega), wrapK]
theorem wrapK_end (zs : List Int) : (wrapK zs zs.length).set (zs.length + 1) 93 = 91 :: (zs ++ [93]) := by
  have h := fillK_set (zs ++ [93]) (zs.length + 1) zs.length (by simp) (by omega)
  have e : (zs ++ [93]).getD zs.length 0 = 93 := by simp
  rw [e, fillK_all _ _ (by simp)] at h
  rw [wrapK, List.set_cons_succ, h]

/-- the state while w is being filled: G is w's block, w1 the world ahead of it. -/
def Filling (w1 : World) (n : Nat) (l : List Int) (wr : World) : Prop :=
  wr.ownsRow w1.heap.size 5 1 (.slice (some ⟨w1.heap.size, 0, none⟩) n n) n (cells8 l) ∧ Below w1.heap.size w1 wr

theorem Filling.set {w1 wr : World} {n : Nat} {l : List Int} (h : Filling w1 n l wr) (j : Nat) (c : Int) : Filling w1 n (l.set j c) (wr.setCell ⟨w1.heap.size, j, none⟩ (.int .u8 c)) := by
  refine ⟨?_, h.2.setCell (Nat.le_refl _) _⟩
  have h' := (h.1.stored j (.int .u8 c)).1
  rw [cells8_set] at h'
  exact h'

/-- a row is opened and its first cell written. -/
theorem start_filling {w1 w2 : World} {zs : List Int} {len : Nat} (hl : zs.length = len)
    (hown : w2.ownsRow w1.heap.size 5 1 (.slice (some ⟨w1.heap.size, 0, none⟩) (len + 2) (len + 2)) (len + 2) (cells8 (List.replicate (len + 2) 0))) (hb : Below w1.heap.size w1 w2) :
    Filling w1 (len + 2) (wrapK zs 0) (w2.setCell ⟨w1.heap.size, 0, none⟩ (.int .u8 91)) := by
  have h := Filling.set (w1 := w1) (wr := w2) (n := len + 2) (l := List.replicate (len + 2) 0) ⟨hown, hb⟩ 0 91
  subst hl
  rw [wrapK_start] at h
  exact h

theorem Filling.cell {w1 wr : World} {n : Nat} {l : List Int} (h : Filling w1 n l wr) (j : Nat) (hj : j < n) : wr.cell? ⟨w1.heap.size, j, none⟩ = some (.int .u8 (l.getD j 0)) := own_cell h.1 j hj
theorem Filling.free {w1 wr : World} {n : Nat} {l : List Int} (h : Filling w1 n l wr) (j : Nat) : wr.frozen? ⟨w1.heap.size, j, none⟩ = false := h.1.frozenAt j

set_option maxHeartbeats 1000000 in
theorem walk_some (w : World) (len : Nat) (zs : List Int) (a0 : Option Addr) (cap0 : Nat) (a1 : Int) (hlen : len ≤ 1048576) (hb1 : -9223372036854775808 ≤ a1) (hb2 : a1 < 9223372036854775807)
    (HCL : Hid (Calls Try.prog 13 #[.slice a0 len cap0] w fun e w' => e = .returned (.slice (some ⟨w.heap.size, 0, none⟩) len len) ∧ Cloned w zs len w')) :
    Calls Try.prog 8 #[.slice a0 len cap0, .int .i64 a1] w fun e w' => e = .returned (.bool true) ∧ Below w.heap.size w w' := by
  have hm : (a1 == 9223372036854775807) = false := by simp; omega
  obtain ⟨i0, hi, hz0, hz1, hz2⟩ := info_parts info5
  go_enter Try.func8, Try.ntmps8
  go_wp2_with (first | (go_at_call 13; refine HCL.out.mono ?_) | (go_at_call 21; go_in))
  rintro e w1 ⟨rfl, hown, hbel⟩
  have hl : zs.length = len := own_len hown
  have HL : Hid (zs.length = len) := hl
  have HO : Hid (w1.ownsRow w.heap.size 5 1 (.slice (some ⟨w.heap.size, 0, none⟩) len len) len (cells8 zs)) := hown
  have HB : Hid (Below w.heap.size w w1) := hbel
  have hsz : w.heap.size < w1.heap.size := by have := hown.lt w.heap.size rfl; omega
  clear hl hown hbel
  go_wp2_with (at_make; refine wpList_make_full _ rfl _ _ 22 rfl w1.heap.size 5 i0 (.int .u8 0) 1 Try.underlying22 hi hz0 hz1 _ _ _ _ (len + 2) rfl rfl (by omega) (by omega) ?_ ?_ (Nat.le_refl _) ?_)
  · rw [hz2]; omega
  · unfold maxLen; omega
  intro w2 hown hgrow
  rw [made8'] at hown
  have hb2' : Below w1.heap.size w1 w2 := (Below.refl _ _).grown hgrow (Nat.le_refl _) (by intro k hk; cases hk)
  have HF : Hid (Filling w1 (len + 2) (wrapK zs 0) (w2.setCell ⟨w1.heap.size, 0, none⟩ (.int .u8 91))) := start_filling HL.out hown hb2'
  have c0 := own_cell hown 0 (by omega)
  have f0 := hown.frozenAt 0
  clear hown hgrow hb2'
  go_wp2
  go_loopw [6] (fun kv wr => ∃ k : Nat, k ≤ len ∧ kv = .int .i64 k ∧ Hid (Filling w1 (len + 2) (wrapK zs k) wr)) (fun kv _ => len - (intOf kv).toNat)
  case atStart => exact ⟨0, Nat.zero_le _, rfl, HF⟩
  case round =>
    obtain ⟨k, hk, rfl, HR⟩ := hrel
    clear HF c0 f0
    by_cases hlt : k < len
    · have hcell : wr.cell? ⟨w.heap.size, k, none⟩ = some (.int .u8 (zs.getD k 0)) := (HR.out.2.cell (p := ⟨w.heap.size, k, none⟩) hsz).trans (own_cell HO.out k hlt)
      have hfr : wr.frozen? ⟨w1.heap.size, k + 1, none⟩ = false := HR.out.free (k + 1)
      have hold : wr.cell? ⟨w1.heap.size, k + 1, none⟩ = some (.int .u8 ((wrapK zs k).getD (k + 1) 0)) := HR.out.cell (k + 1) (by omega)
      have HS : Hid (Filling w1 (len + 2) (wrapK zs (k + 1)) (wr.setCell ⟨w1.heap.size, k + 1, none⟩ (.int .u8 (zs.getD k 0)))) := by
        have h := HR.out.set (k + 1) (zs.getD k 0)
        rw [wrapK_step zs k (by have := HL.out; omega)] at h
        exact h
      clear HR
      obtain ⟨c, hcz⟩ : ∃ c, c = zs.getD k 0 := ⟨_, rfl⟩
      obtain ⟨c', hcz'⟩ : ∃ c, c = (wrapK zs k).getD (k + 1) 0 := ⟨_, rfl⟩
      rw [← hcz] at hcell HS
      rw [← hcz'] at hold
      clear hcz hcz'
      go_wp2
      go_roundw
      case rel => exact ⟨k + 1, by omega, by go_num, HS⟩
      case measure => simp [intOf]; omega
    · obtain rfl : k = len := by omega
      have hfr : wr.frozen? ⟨w1.heap.size, k + 1, none⟩ = false := HR.out.free (k + 1)
      have hold : wr.cell? ⟨w1.heap.size, k + 1, none⟩ = some (.int .u8 ((wrapK zs k).getD (k + 1) 0)) := HR.out.cell (k + 1) (by omega)
      have HS : Hid (Filling w1 (k + 2) (91 :: (zs ++ [93])) (wr.setCell ⟨w1.heap.size, k + 1, none⟩ (.int .u8 93))) := by
        have h := HR.out.set (k + 1) 93
        have e := wrapK_end zs
        rw [HL.out] at e
        rw [e] at h
        exact h
      clear HR
      obtain ⟨c', hcz'⟩ : ∃ c, c = (wrapK zs k).getD (k + 1) 0 := ⟨_, rfl⟩
      rw [← hcz'] at hold
      clear hcz'
      go_wp2_with fail
      have HW : Hid (∀ i, i < k + 2 → (wr.setCell ⟨w1.heap.size, k + 1, none⟩ (.int .u8 93)).cell? ⟨w1.heap.size, 0 + i, none⟩ = some (.int .u8 ((91 :: (zs ++ [93])).getD i 0))) := fun i hi => by
        rw [Nat.zero_add]; exact HS.out.cell i hi
      have HC : Hid (∀ i, i < k → (wr.setCell ⟨w1.heap.size, k + 1, none⟩ (.int .u8 93)).cell? ⟨w.heap.size, 0 + i, none⟩ = some (.int .u8 (zs.getD i 0))) := fun i hi => by
        rw [Nat.zero_add]; exact (HS.out.2.cell (p := ⟨w.heap.size, i, none⟩) hsz).trans (own_cell HO.out i hi)
      have HE : Hid (Below w.heap.size w (wr.setCell ⟨w1.heap.size, k + 1, none⟩ (.int .u8 93))) := HB.out.trans (HS.out.2.mono (by omega))
      clear hfr hold HS HB HO
      refine (td19 w1.heap.size 0 (k + 2) (k + 2) (91 :: (zs ++ [93])) (a1 + 1) _ (by have := HL.out; simp; omega) (by omega) (by omega) (by omega) HW.out).mono ?_
      by_cases hneg : a1 < 0
      · rw [Td.td_wrap_neg zs a1 hneg]
        rintro e w' ⟨rfl, rfl⟩
        go_wp2
        go_ret
        exact ⟨rfl, HE.out⟩
      · have hw := Td.td_wrap zs a1 (by omega)
        by_cases ht : Td.td zs a1 = -1
        · rw [hw.1 ht]
          have HT : Hid (Td.td zs a1 = -1) := ht
          clear ht hw
          rintro e w' ⟨rfl, rfl⟩
          go_wp2_with fail
          refine (td19 w.heap.size 0 k k zs a1 _ HL.out (by omega) hb1 (by omega) HC.out).mono ?_
          rw [HT.out]
          rintro e w' ⟨rfl, rfl⟩
          go_wp2
          go_ret
          exact ⟨rfl, HE.out⟩
        · rw [hw.2 ht]
          have hr := Td.td_range zs a1
          have hk2 := HL.out
          obtain ⟨r, hrr⟩ : ∃ r : Int, r = Td.td zs a1 := ⟨_, rfl⟩
          rw [← hrr] at ht hr ⊢
          have hr1 : 0 ≤ r := by omega
          have hr2 : r ≤ 1048576 := by omega
          have HT : Hid (Td.td zs a1 = r) := hrr.symm
          have hq : (r == -1) = false := by simpa using ht
          clear ht hw hrr hr hk2
          rintro e w' ⟨rfl, rfl⟩
          go_wp2_with fail
          refine (td19 w.heap.size 0 k k zs a1 _ HL.out (by omega) hb1 (by omega) HC.out).mono ?_
          rw [HT.out]
          rintro e w' ⟨rfl, rfl⟩
          go_wp2
          go_ret
          exact ⟨by simp, HE.out⟩

set_option maxHeartbeats 1000000 in
theorem walk_nil (w : World) (a1 : Int) (hb1 : -9223372036854775808 ≤ a1) (hb2 : a1 < 9223372036854775807) :
    Calls Try.prog 8 #[.slice none 0 0, .int .i64 a1] w fun e w' => e = .returned (.bool true) ∧ Below w.heap.size w w' := by
  have hm : (a1 == 9223372036854775807) = false := by simp; omega
  obtain ⟨i0, hi, hz0, hz1, hz2⟩ := info_parts info5
  go_enter Try.func8, Try.ntmps8
  go_wp2_with (first | (go_at_call 13; refine (clone_nil _).mono ?_; rintro e w' ⟨rfl, hw⟩; have hw' := hw.symm; clear hw; subst hw') | (go_at_call 21; go_in) | (at_make; refine wpList_make_full _ rfl _ _ 22 rfl w.heap.size 5 i0 (.int .u8 0) 1 Try.underlying22 hi hz0 hz1 _ _ _ _ 2 rfl rfl rfl rfl ?_ ?_ (Nat.le_refl _) ?_))
  · rw [hz2]; omega
  · unfold maxLen; omega
  intro w2 hown hgrow
  rw [made8'] at hown
  have hb2' : Below w.heap.size w w2 := (Below.refl _ _).grown hgrow (Nat.le_refl _) (by intro k hk; cases hk)
  have HF : Hid (Filling w 2 (wrapK [] 0) (w2.setCell ⟨w.heap.size, 0, none⟩ (.int .u8 91))) := start_filling (zs := []) (len := 0) rfl hown hb2'
  have c0 := own_cell hown 0 (by omega)
  have f0 := hown.frozenAt 0
  have c1 := HF.out.cell 1 (by omega)
  have f1 := HF.out.free 1
  have HS : Hid (Filling w 2 [91, 93] ((w2.setCell ⟨w.heap.size, 0, none⟩ (.int .u8 91)).setCell ⟨w.heap.size, 1, none⟩ (.int .u8 93))) := by
    have h := HF.out.set 1 93
    exact h
  clear hown hgrow hb2' HF
  go_wp2
  refine wp_loop_rounds 1 ?_
  rw [rounds_succ]
  go_wp2_with fail
  have HW : Hid (∀ i, i < 2 → ((w2.setCell ⟨w.heap.size, 0, none⟩ (.int .u8 91)).setCell ⟨w.heap.size, 1, none⟩ (.int .u8 93)).cell? ⟨w.heap.size, 0 + i, none⟩ = some (.int .u8 (([91, 93] : List Int).getD i 0))) := fun i hi => by
    rw [Nat.zero_add]; exact HS.out.cell i hi
  have HE : Hid (Below w.heap.size w ((w2.setCell ⟨w.heap.size, 0, none⟩ (.int .u8 91)).setCell ⟨w.heap.size, 1, none⟩ (.int .u8 93))) := HS.out.2
  clear c0 f0 c1 f1 HS
  refine (td19 w.heap.size 0 2 2 [91, 93] (a1 + 1) _ rfl (by omega) (by omega) (by omega) HW.out).mono ?_
  by_cases hneg : a1 < 0
  · have ht : Td.td [91, 93] (a1 + 1) = 0 := Td.td_wrap_neg [] a1 hneg
    rw [ht]
    rintro e w' ⟨rfl, rfl⟩
    go_wp2
    go_ret
    exact ⟨rfl, HE.out⟩
  · have ht : Td.td [91, 93] (a1 + 1) = -1 := (Td.td_wrap [] a1 (by omega)).1 rfl
    rw [ht]
    rintro e w' ⟨rfl, rfl⟩
    go_wp2_with fail
    refine (td19_nil a1 _).mono ?_
    rintro e w' ⟨rfl, rfl⟩
    go_wp2
    go_ret
    exact ⟨rfl, HE.out⟩

theorem walk (a0 : Option Addr) (len0 cap0 : Nat) (z0 : List Int) (a1 : Int) (w : World) (w0 : IsRow .u8 w a0 len0 cap0 z0) (w1 : (Lit.int .i64 a1).wf = true) :
    Calls Try.prog 8 #[.slice a0 len0 cap0, .int .i64 a1] w fun e w' => e = .returned (.bool true) ∧ Below w.heap.size w w' := by
  obtain ⟨hb1, hb2⟩ := bounds_i64 w1
  by_cases hlen : len0 ≤ 1048576
  case neg =>
    clear w0 w1
    go_enter Try.func8, Try.ntmps8
    go_wp2
    go_ret
    exact ⟨rfl, Below.refl _ _⟩
  by_cases hmax : a1 = 9223372036854775807
  · subst hmax
    clear w0 w1
    go_enter Try.func8, Try.ntmps8
    go_wp2
    go_ret
    exact ⟨rfl, Below.refl _ _⟩
  rcases w0 with ⟨rfl, rfl, rfl, rfl⟩ | ⟨x, rfl, hlc, _, hz, hcell, _⟩
  · exact walk_nil w a1 hb1 (by omega)
  · by_cases h0 : len0 = 0
    · subst h0
      exact walk_some w 0 [] (some x) cap0 a1 (by omega) hb1 (by omega) (clone_empty x cap0 w)
    · obtain ⟨b, off, rfl, hc⟩ := ints_at hcell (by omega)
      refine walk_some w len0 (z0.take len0) _ cap0 a1 hlen hb1 (by omega) (clone_some b off len0 cap0 (z0.take len0) w (by simp; omega) (by omega) ?_)
      intro i hi
      rw [hc i (by omega)]
      simp [hi]

end Go.Proofs.Qxb6000664a.fnTooDeepWrapShift
