/-
  THE WALK OF FnAppendStringConcat (4).
-/
import Derived.Test.Qxb6000664aAppWalk
import Derived.Deep.QuietTactic
import Derived.BigQuiet
namespace Go.Proofs.Qxb6000664a.fnAppendStringConcat
open Go.RowKit
set_option linter.unusedVariables false
set_option linter.unusedSimpArgs false

theorem bytesI_add (s t : ByteArray) : bytesI (s ++ t) = bytesI s ++ bytesI t := by simp [bytesI]

/-! the plain law -/
theorem quo_cat (a b : List Int) : Esc.quo (a ++ b) = (34 :: Esc.escs a) ++ (Esc.escs b ++ [34]) := by simp [Esc.quo, Esc.escs_append]
theorem quo_left (a : List Int) : Esc.quo a = (34 :: Esc.escs a) ++ [34] := by simp [Esc.quo]
theorem same_left (a b : List Int) (i : Nat) (h : i < (Esc.quo a).length - 1) : (Esc.quo (a ++ b)).getD i 0 = (Esc.quo a).getD i 0 := by
  have hl : (Esc.quo a).length = (34 :: Esc.escs a).length + 1 := by rw [quo_left]; simp
  rw [quo_cat, quo_left, List.getD_eq_getElem?_getD, List.getD_eq_getElem?_getD, List.getElem?_append_left (by omega), List.getElem?_append_left (by omega)]
theorem same_right (a b : List Int) (j : Nat) (h : j < (Esc.quo b).length - 1) : (Esc.quo (a ++ b)).getD ((Esc.quo a).length - 1 + j) 0 = (Esc.quo b).getD (1 + j) 0 := by
  have hl : (Esc.quo a).length = (34 :: Esc.escs a).length + 1 := by rw [quo_left]; simp
  rw [quo_cat, List.getD_eq_getElem?_getD, List.getD_eq_getElem?_getD, List.getElem?_append_right (by omega)]
  have e : (Esc.quo a).length - 1 + j - (34 :: Esc.escs a).length = j := by omega
  rw [e, Nat.add_comm 1 j, Esc.quo, List.getElem?_cons_succ]
theorem quo_cat_len (a b : List Int) : (Esc.quo (a ++ b)).length + 2 = (Esc.quo a).length + (Esc.quo b).length := by
  simp [Esc.quo_len, Esc.escs_append]; omega

/-- three rows that are read, in whatever world behind. -/
def Three (w : World) (ga gb gc la lb lc : Nat) (A B C : List Int) (wr : World) : Prop :=
  (∀ i, i < la → wr.cell? ⟨ga, i, none⟩ = some (.int .u8 (A.getD i 0))) ∧ (∀ i, i < lb → wr.cell? ⟨gb, i, none⟩ = some (.int .u8 (B.getD i 0))) ∧
  (∀ i, i < lc → wr.cell? ⟨gc, i, none⟩ = some (.int .u8 (C.getD i 0))) ∧ Below w.heap.size w wr
theorem Three.drewN {w wr : World} {ga gb gc la lb lc : Nat} {A B C : List Int} (h : Three w ga gb gc la lb lc A B C wr) (n : Nat) : Three w ga gb gc la lb lc A B C (wr.drewN n) :=
  ⟨h.1, h.2.1, h.2.2.1, h.2.2.2.trans ⟨rfl, rfl, rfl, Nat.le_refl _, fun _ _ => rfl⟩⟩

set_option maxHeartbeats 1000000 in
theorem walk (a0 : ByteArray) (a1 : ByteArray) (w0 : a0.size ≤ maxLen) (w1 : a1.size ≤ maxLen) (w : World) :
    Calls Try.prog 4 #[.string a0, .string a1] w fun e w' => e = .returned (.bool true) ∧ Below w.heap.size w w' := by
  unfold maxLen at w0 w1
  by_cases h0 : a0.size ≤ 65536
  case neg =>
    by_cases h1 : a0.size + a1.size ≤ 1048576
    · go_enter Try.func4, Try.ntmps4
      go_wp2
      go_ret
      exact ⟨rfl, Below.refl _ _⟩
    · go_enter Try.func4, Try.ntmps4
      go_wp2
      all_goals
        go_ret
        exact ⟨rfl, Below.refl _ _⟩
  by_cases h1 : a1.size ≤ 65536
  case neg =>
    go_enter Try.func4, Try.ntmps4
    go_wp2
    all_goals
      go_ret
      exact ⟨rfl, Below.refl _ _⟩
  have hs : (a0 ++ a1).size = a0.size + a1.size := by simp
  have HS : Hid ((a0 ++ a1).size ≤ 200000) := by show _ ≤ _; omega
  clear hs
  obtain ⟨A, hA⟩ : ∃ A, Esc.quo (bytesI a0) = A := ⟨_, rfl⟩
  obtain ⟨B, hB⟩ : ∃ B, Esc.quo (bytesI a1) = B := ⟨_, rfl⟩
  obtain ⟨C, hC⟩ : ∃ C, Esc.quo (bytesI (a0 ++ a1)) = C := ⟨_, rfl⟩
  obtain ⟨la, hla⟩ : ∃ l, A.length = l := ⟨_, rfl⟩
  obtain ⟨lb, hlb⟩ : ∃ l, B.length = l := ⟨_, rfl⟩
  obtain ⟨lc, hlc⟩ : ∃ l, C.length = l := ⟨_, rfl⟩
  have hlen : lc + 2 = la + lb := by rw [← hla, ← hlb, ← hlc, ← hA, ← hB, ← hC, bytesI_add]; exact quo_cat_len _ _
  have hga : 2 ≤ la ∧ la ≤ 400000 := by
    have e1 := Esc.quo_len (bytesI a0); have e2 := Esc.escs_len (bytesI a0); have e3 := bytesI_length a0
    rw [hA, hla] at e1; omega
  have hgb : 2 ≤ lb ∧ lb ≤ 400000 := by
    have e1 := Esc.quo_len (bytesI a1); have e2 := Esc.escs_len (bytesI a1); have e3 := bytesI_length a1
    rw [hB, hlb] at e1; omega
  have HL : Hid (∀ i, i < la - 1 → C.getD i 0 = A.getD i 0) := fun i hi => by
    rw [← hA, ← hC, bytesI_add]; exact same_left _ _ i (by rw [hA, hla]; exact hi)
  have HR : Hid (∀ j, j < lb - 1 → C.getD (la - 1 + j) 0 = B.getD (1 + j) 0) := fun j hj => by
    have h := same_right (bytesI a0) (bytesI a1) j (by rw [hB, hlb]; exact hj)
    rw [hA, hB, hla, ← bytesI_add, hC] at h
    exact h
  obtain ⟨hga1, hga2⟩ := hga
  obtain ⟨hgb1, hgb2⟩ := hgb
  have hq1 : lc + 2 ≤ la + lb := by omega
  have hq2 : la + lb ≤ lc + 2 := by omega
  have K1 : Hid (Esc.quo (bytesI a0) = A ∧ A.length = la) := ⟨hA, hla⟩
  have K2 : Hid (Esc.quo (bytesI a1) = B ∧ B.length = lb) := ⟨hB, hlb⟩
  have K3 : Hid (Esc.quo (bytesI (a0 ++ a1)) = C ∧ C.length = lc) := ⟨hC, hlc⟩
  have hq3 : ((lc : Int) != (la : Int) + (lb : Int) - 2) = false := by simp; omega
  have hq4 : ¬ (la : Int) < 2 := by omega
  have hq5 : ¬ (lb : Int) < 2 := by omega
  clear hA hB hC hla hlb hlc hlen
  go_enter Try.func4, Try.ntmps4
  go_wp2_with (go_at_call 16; go_in)
  refine (app14_q a0 A la _ (by omega) K1.out.1 K1.out.2).mono ?_
  rintro e wa ⟨ga, ca, rfl, ha1, ha2, ha3, ha4⟩
  have HA : Hid (∀ i, i < la → wa.cell? ⟨ga, i, none⟩ = some (.int .u8 (A.getD i 0))) := ha4
  have HBa : Hid (Below w.heap.size w wa) := ha3
  clear ha4 ha3
  go_wp2_with fail
  refine (app14_q a1 B lb _ (by omega) K2.out.1 K2.out.2).mono ?_
  rintro e wb ⟨gb, cb, rfl, hb1, hb2, hb3, hb4⟩
  have HB : Hid (∀ i, i < lb → wb.cell? ⟨gb, i, none⟩ = some (.int .u8 (B.getD i 0))) := hb4
  have HBb : Hid (Below wa.heap.size wa wb) := hb3
  clear hb4 hb3
  go_wp2_with fail
  refine (app14_q (a0 ++ a1) C lc _ HS.out K3.out.1 K3.out.2).mono ?_
  rintro e wc ⟨gc, cc, rfl, hc1, hc2, hc3, hc4⟩
  have HT : Hid (Three w ga gb gc la lb lc A B C wc) := by
    have s1 := HBa.out.size
    have s2 := HBb.out.size
    have hab : Below wa.heap.size wa wc := HBb.out.trans (hc3.mono s2)
    exact ⟨fun i hi => (hab.cell (p := ⟨ga, i, none⟩) ha2).trans (HA.out i hi), fun i hi => (hc3.cell (p := ⟨gb, i, none⟩) hb2).trans (HB.out i hi), hc4, HBa.out.trans (hab.mono s1)⟩
  clear hc3 hc4 HA HB HBa HBb ha1 ha2 hb1 hb2 hc1 hc2 K1 K2 K3 HS
  go_wp2
  go_loopw [8] (fun kv wr => ∃ k : Nat, k ≤ la - 1 ∧ kv = .int .i64 k ∧ Hid (Three w ga gb gc la lb lc A B C wr)) (fun kv _ => la - 1 - (intOf kv).toNat)
  case atStart => exact ⟨0, Nat.zero_le _, rfl, HT⟩
  case round =>
    obtain ⟨k, hk, rfl, HK⟩ := hrel
    clear HT
    by_cases hlt : k < la - 1
    · have c1 : wr.cell? ⟨ga, k, none⟩ = some (.int .u8 (A.getD k 0)) := HK.out.1 k (by omega)
      have c2 : wr.cell? ⟨gc, k, none⟩ = some (.int .u8 (A.getD k 0)) := by rw [← HL.out k hlt]; exact HK.out.2.2.1 k (by omega)
      obtain ⟨x, hx⟩ : ∃ x, x = A.getD k 0 := ⟨_, rfl⟩
      rw [← hx] at c1 c2
      clear hx
      have b1 : (k : Int) < (la : Int) := by omega
      have b2 : (k : Int) < (lc : Int) := by omega
      go_wp2
      go_quiet (fail)
      go_wp2
      go_roundw
      case rel => exact ⟨k + 1, by omega, by go_num, HK.out.drewN _⟩
      case measure => simp [intOf]; omega
    · obtain ⟨wo, rfl⟩ : ∃ wo : World, wo = wr := ⟨_, rfl⟩
      go_wp2
      go_loopw [9] (fun kv wr => ∃ j : Nat, j ≤ lb - 1 ∧ kv = .int .i64 j ∧ Hid (Three w ga gb gc la lb lc A B C wr)) (fun kv _ => lb - 1 - (intOf kv).toNat)
      case atStart => exact ⟨0, Nat.zero_le _, rfl, HK⟩
      case round =>
        obtain ⟨j, hj, rfl, HJ⟩ := hrel
        clear HK
        by_cases hlt2 : j < lb - 1
        · have c1 : wr.cell? ⟨gb, 1 + j, none⟩ = some (.int .u8 (B.getD (1 + j) 0)) := HJ.out.2.1 (1 + j) (by omega)
          have c2 : wr.cell? ⟨gc, la - 1 + j, none⟩ = some (.int .u8 (B.getD (1 + j) 0)) := by rw [← HR.out j hlt2]; exact HJ.out.2.2.1 (la - 1 + j) (by omega)
          obtain ⟨x, hx⟩ : ∃ x, x = B.getD (1 + j) 0 := ⟨_, rfl⟩
          rw [← hx] at c1 c2
          clear hx
          go_wp2
          go_quiet (fail)
          go_wp2
          go_roundw
          case rel => exact ⟨j + 1, by omega, by go_num, HJ.out.drewN _⟩
          case measure => simp [intOf]; omega
        · go_wp2
          go_ret
          exact ⟨rfl, HJ.out.2.2.2⟩
end Go.Proofs.Qxb6000664a.fnAppendStringConcat
