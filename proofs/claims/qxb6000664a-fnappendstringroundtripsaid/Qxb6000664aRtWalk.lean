/-
  THE WALK OF FnAppendStringRoundTrip (3).
-/
import Derived.Test.Qxb6000664aUnqWalk
import Derived.Test.Qxb6000664aClone
import Derived.Deep.QuietTactic
import Derived.BigQuiet
namespace Go.Proofs.Qxb6000664a.fnAppendStringRoundTrip
open Go.RowKit
set_option linter.unusedVariables false
set_option linter.unusedSimpArgs false

/-- WHAT THE WALK IS TOLD OF A SLICE OF INTEGERS THAT CAME IN (the guide's own shell has it so). -/
def IsRow (k : IntKind) (w : World) (a : Option Addr) (len cap : Nat) (zs : List Int) : Prop :=
  (a = none ∧ len = 0 ∧ cap = 0 ∧ zs = []) ∨
  ∃ x, a = some x ∧ len ≤ cap ∧ cap ≤ maxLen ∧ zs.length = cap ∧ (∀ i, i < zs.length → w.cell? (x.add i) = some (.int k (zs.getD i 0))) ∧ ∀ n ∈ zs, (Lit.int k n).wf = true

/-- appendString onto a full slice, what comes back written out. -/
theorem app14_w (ao : Option Addr) (n : Nat) (xs Q : List Int) (l : Nat) (s : ByteArray) (w : World) (hn : xs.length = n) (hnl : n ≤ 2000000) (hs : s.size ≤ 200000) (hQ : Esc.quo (bytesI s) = Q) (hl : Q.length = l)
    (hnone : ao = none → n = 0) (hcells : ∀ b, ao = some b → ∀ j u, (cells8 xs)[j]? = some u → w.cell? (b.add j) = some u) :
    Calls Try.prog 14 #[.slice ao n n, .string s] w fun e w' => ∃ g cap, e = .returned (.slice (some ⟨g, 0, none⟩) (n + l) cap) ∧ g < w'.heap.size ∧ n + l ≤ cap ∧ cap ≤ 9223372036854775807 ∧ Below w.heap.size w w' ∧
      (∀ i, i < n → w'.cell? ⟨g, i, none⟩ = some (.int .u8 (xs.getD i 0))) ∧ (∀ i, i < l → w'.cell? ⟨g, n + i, none⟩ = some (.int .u8 (Q[i]?.getD 0))) := by
  refine (app14 ao n xs s w hn hnl hs hnone hcells).mono ?_
  rintro e w' ⟨v', rfl, hown, hb, hB⟩
  have hq := Esc.quo_len (bytesI s)
  rw [hQ] at hown hq
  have hll : (xs ++ Q).length = n + l := by simp [hn, hl]
  rw [hll] at hown
  rcases hown.2 with ⟨rfl, h0⟩ | ⟨g, cap, cur, rfl, hbg, hg, hcap, hcm, _⟩
  · omega
  · have hlt := hown.lt g rfl
    refine ⟨g, cap, rfl, hlt.2, hcap, by unfold maxLen at hcm; omega, hb, fun i hi => ?_, fun i hi => ?_⟩
    · rw [own_cell hown i (by omega), List.getD_eq_getElem?_getD, List.getD_eq_getElem?_getD, List.getElem?_append_left (by omega)]
    · rw [own_cell hown (n + i) (by omega), List.getD_eq_getElem?_getD, List.getElem?_append_right (by omega)]
      have e : n + i - xs.length = i := by omega
      rw [e]

/-- the reader, what comes back written out. -/
theorem unq_w (b off L cap m : Nat) (s : ByteArray) (Q : List Int) (w : World) (hm : s.size = m) (hbl : m ≤ 65536) (hQ : Esc.quo (bytesI s) = Q) (hL : Q.length = L)
    (hc : ∀ i, i < L → w.cell? ⟨b, off + i, none⟩ = some (.int .u8 (Q[i]?.getD 0))) :
    Calls Try.prog 15 #[.slice (some ⟨b, off, none⟩) L cap] w fun e w' => Below w.heap.size w w' ∧
      ((m = 0 ∧ ∃ ao cp, e = .returned (.tuple #[.slice ao 0 cp, .bool true])) ∨
       ∃ g cp, e = .returned (.tuple #[.slice (some ⟨g, 0, none⟩) m cp, .bool true]) ∧ ∀ i (h : i < s.size), w'.cell? ⟨g, i, none⟩ = some (.int .u8 (s[i].toNat : Int))) := by
  subst hQ hm
  refine (unq15 b off L cap (bytesI s) w (bytesI_bd s) (by rw [bytesI_length]; exact hbl) hL hc).mono ?_
  rintro e w' ⟨v, rfl, hown, hb, hB⟩
  refine ⟨hb, ?_⟩
  rw [bytesI_length] at hown
  rcases hown.2 with ⟨rfl, h0⟩ | ⟨g, cp, cur, rfl, hbg, hg, _⟩
  · exact .inl ⟨h0, _, _, rfl⟩
  · refine .inr ⟨g, cp, rfl, fun i h => ?_⟩
    rw [own_cell hown i h, List.getD_eq_getElem?_getD, bytesI_at s i h]

/-- what the two loops read. -/
def Reads (w : World) (g g1 n l : Nat) (zs Q : List Int) (wr : World) : Prop :=
  (∀ i, i < n → wr.cell? ⟨g, i, none⟩ = some (.int .u8 (zs.getD i 0))) ∧ (∀ i, i < l → wr.cell? ⟨g, n + i, none⟩ = some (.int .u8 (Q[i]?.getD 0))) ∧
  (∀ i, i < n → wr.cell? ⟨g1, i, none⟩ = some (.int .u8 (zs.getD i 0))) ∧ Below w.heap.size w wr
theorem Reads.drewN {w wr : World} {g g1 n l : Nat} {zs Q : List Int} (h : Reads w g g1 n l zs Q wr) (q : Nat) : Reads w g g1 n l zs Q (wr.drewN q) :=
  ⟨h.1, h.2.1, h.2.2.1, h.2.2.2.trans ⟨rfl, rfl, rfl, Nat.le_refl _, fun _ _ => rfl⟩⟩
/-- what the last loop reads. -/
def Decoded (w : World) (g : Nat) (s : ByteArray) (wr : World) : Prop :=
  (∀ i (h : i < s.size), wr.cell? ⟨g, i, none⟩ = some (.int .u8 (s[i].toNat : Int))) ∧ Below w.heap.size w wr
theorem Decoded.drewN {w wr : World} {g : Nat} {s : ByteArray} (h : Decoded w g s wr) (q : Nat) : Decoded w g s (wr.drewN q) :=
  ⟨h.1, h.2.trans ⟨rfl, rfl, rfl, Nat.le_refl _, fun _ _ => rfl⟩⟩
theorem below_drewN {B : Nat} {a w : World} (h : Below B a w) (n : Nat) : Below B a (w.drewN n) := h.trans ⟨rfl, rfl, rfl, Nat.le_refl _, fun _ _ => rfl⟩

set_option maxRecDepth 20000 in
set_option maxHeartbeats 2000000 in
theorem walk_some (w : World) (n : Nat) (zs : List Int) (a0 : Option Addr) (cap0 : Nat) (s : ByteArray) (hlen : n ≤ 65536) (hs : s.size ≤ 65536)
    (HCL : Hid (Calls Try.prog 13 #[.slice a0 n cap0] w fun e w' => e = .returned (.slice (some ⟨w.heap.size, 0, none⟩) n n) ∧ Cloned w zs n w')) :
    Calls Try.prog 3 #[.slice a0 n cap0, .string s] w fun e w' => e = .returned (.bool true) ∧ Below w.heap.size w w' := by
  obtain ⟨Q, hQ⟩ : ∃ Q, Esc.quo (bytesI s) = Q := ⟨_, rfl⟩
  obtain ⟨l, hl⟩ : ∃ l, Q.length = l := ⟨_, rfl⟩
  have hq : 2 ≤ l ∧ l ≤ 400000 := by
    have e1 := Esc.quo_len (bytesI s); have e2 := Esc.escs_len (bytesI s); have e3 := bytesI_length s
    rw [hQ, hl] at e1; omega
  obtain ⟨hq1, hq2⟩ := hq
  have HQ : Hid (Esc.quo (bytesI s) = Q) := hQ
  have HL : Hid (Q.length = l) := hl
  clear hQ hl
  go_enter Try.func3, Try.ntmps3
  go_wp2_with (first | (go_at_call 13; refine HCL.out.mono ?_) | (go_at_call 12; go_in))
  rintro e w1 ⟨rfl, hown, hbel⟩
  have HZ : Hid (zs.length = n) := own_len hown
  have HO : Hid (w1.ownsRow w.heap.size 5 1 (.slice (some ⟨w.heap.size, 0, none⟩) n n) n (cells8 zs)) := hown
  have HB : Hid (Below w.heap.size w w1) := hbel
  have hsz : w.heap.size < w1.heap.size := by have := hown.lt w.heap.size rfl; omega
  clear hown hbel
  go_wp2_with fail
  refine (clone_some w.heap.size 0 n n zs _ HZ.out (by omega) (fun i hi => by rw [Nat.zero_add]; exact own_cell HO.out i hi)).mono ?_
  rintro e w2 ⟨rfl, hown2, hbel2⟩
  have HO2 : Hid (w2.ownsRow w1.heap.size 5 1 (.slice (some ⟨w1.heap.size, 0, none⟩) n n) n (cells8 zs)) := hown2
  have HB2 : Hid (Below w1.heap.size w1 w2) := hbel2
  have hsz2 : w1.heap.size < w2.heap.size := by have := hown2.lt w1.heap.size rfl; omega
  clear hown2 hbel2
  go_wp2_with fail
  refine (app14_w (some ⟨w.heap.size, 0, none⟩) n zs Q l s _ HZ.out (by omega) (by omega) HQ.out HL.out (fun h => by cases h) ?_).mono ?_
  · intro b hb j u hu
    cases hb
    rw [Addr.add_lit]
    have hj : j < n := by
      have h1 := (List.getElem?_eq_some_iff.1 hu).1
      have := HZ.out
      simp at h1; omega
    have hcell := (HB2.out.cell (p := ⟨w.heap.size, j, none⟩) hsz).trans (own_cell HO.out j hj)
    rw [Nat.zero_add, hcell, ← hu]
    have := HZ.out
    simp [show j < zs.length by omega]
  rintro e w3 ⟨g, cp, rfl, hg1, hg2, hg2', hg3, hg4, hg5⟩
  have HRD : Hid (Reads w g w1.heap.size n l zs Q w3) :=
    ⟨hg4, hg5, fun i hi => (hg3.cell (p := ⟨w1.heap.size, i, none⟩) hsz2).trans (own_cell HO2.out i hi), HB.out.trans ((HB2.out.trans (hg3.mono (by omega))).mono (by omega))⟩
  clear hg3 hg4 hg5 HO HO2 HB HB2
  have n1 : ¬ (n : Int) + (l : Int) < (n : Int) := by omega
  go_wp2
  go_loopw [8] (fun kv wr => ∃ k : Nat, k ≤ n ∧ kv = .int .i64 k ∧ Hid (Reads w g w1.heap.size n l zs Q wr)) (fun kv _ => n - (intOf kv).toNat)
  case atStart => exact ⟨0, Nat.zero_le _, rfl, HRD⟩
  case round =>
    obtain ⟨k, hk, rfl, HK⟩ := hrel
    clear HRD
    by_cases hlt : k < n
    · have c1 := HK.out.1 k hlt
      have c2 := HK.out.2.2.1 k hlt
      obtain ⟨x, hx⟩ : ∃ x, x = zs.getD k 0 := ⟨_, rfl⟩
      rw [← hx] at c1 c2
      clear hx
      have b1 : (k : Int) < (n : Int) := by omega
      have b2 : (k : Int) < (n : Int) + (l : Int) := by omega
      go_wp2
      go_quiet (fail)
      go_wp2
      go_roundw
      case rel => exact ⟨k + 1, by omega, by go_num, HK.out.drewN _⟩
      case measure => simp [intOf]; omega
    · have HRD : Hid (Reads w g w1.heap.size n l zs Q wr) := HK
      clear HK
      go_wp2_with fail
      refine (unq_w g n l _ s.size s Q _ rfl (by omega) HQ.out HL.out (fun i hi => HRD.out.2.1 i hi)).mono ?_
      rintro e w5 ⟨hb5, (⟨hm0, ao5, cp5, rfl⟩ | ⟨g5, cp5, rfl, hc5⟩)⟩
      · have HB5 : Hid (Below w.heap.size w w5) := HRD.out.2.2.2.trans (hb5.mono HRD.out.2.2.2.size)
        have hz : (s.size : Int) ≤ 0 := by omega
        have tz : ((0 : Int) != (s.size : Int)) = false := by simp; omega
        clear HRD hb5 hm0
        go_wp2
        refine wp_loop_rounds 1 ?_
        rw [rounds_succ]
        go_wp2
        go_ret
        exact ⟨rfl, HB5.out⟩
      · have HD : Hid (Decoded w g5 s w5) := ⟨hc5, HRD.out.2.2.2.trans (hb5.mono HRD.out.2.2.2.size)⟩
        clear HRD hb5 hc5
        go_wp2
        go_loopw [11] (fun kv wq => ∃ j : Nat, j ≤ s.size ∧ kv = .int .i64 j ∧ Hid (Decoded w g5 s wq)) (fun kv _ => s.size - (intOf kv).toNat)
        case atStart => exact ⟨0, Nat.zero_le _, rfl, HD⟩
        case round =>
          obtain ⟨j, hj, rfl, HJ⟩ := hrel
          clear HD
          by_cases hlt2 : j < s.size
          · have c1 := HJ.out.1 j hlt2
            have b1 : (j : Int) < (s.size : Int) := by omega
            go_wp2
            go_quiet (fail)
            go_wp2
            go_roundw
            case rel => exact ⟨j + 1, by omega, by go_num, HJ.out.drewN _⟩
            case measure => simp [intOf]; omega
          · go_wp2
            go_ret
            exact ⟨rfl, HJ.out.2⟩

theorem app14_w0 (Q : List Int) (l : Nat) (s : ByteArray) (w : World) (hs : s.size ≤ 200000) (hQ : Esc.quo (bytesI s) = Q) (hl : Q.length = l) :
    Calls Try.prog 14 #[.slice none 0 0, .string s] w fun e w' => ∃ g cap, e = .returned (.slice (some ⟨g, 0, none⟩) l cap) ∧ g < w'.heap.size ∧ l ≤ cap ∧ cap ≤ 9223372036854775807 ∧ Reads w g 0 0 l [] Q w' := by
  refine (app14_w none 0 [] Q l s w rfl (by omega) hs hQ hl (fun _ => rfl) (fun b h => by cases h)).mono ?_
  rintro e w' ⟨g, cap, rfl, h1, h2, h2', h3, h4, h5⟩
  exact ⟨g, cap, by rw [Nat.zero_add], h1, by omega, h2', h4, h5, fun i hi => by omega, h3⟩

set_option maxRecDepth 20000 in
set_option maxHeartbeats 2000000 in
theorem walk_nil (w : World) (s : ByteArray) (hs : s.size ≤ 65536) :
    Calls Try.prog 3 #[.slice none 0 0, .string s] w fun e w' => e = .returned (.bool true) ∧ Below w.heap.size w w' := by
  obtain ⟨Q, hQ⟩ : ∃ Q, Esc.quo (bytesI s) = Q := ⟨_, rfl⟩
  obtain ⟨l, hl⟩ : ∃ l, Q.length = l := ⟨_, rfl⟩
  have hq : 2 ≤ l ∧ l ≤ 400000 := by
    have e1 := Esc.quo_len (bytesI s); have e2 := Esc.escs_len (bytesI s); have e3 := bytesI_length s
    rw [hQ, hl] at e1; omega
  obtain ⟨hq1, hq2⟩ := hq
  have HQ : Hid (Esc.quo (bytesI s) = Q) := hQ
  have HL : Hid (Q.length = l) := hl
  clear hQ hl
  go_enter Try.func3, Try.ntmps3
  go_wp2_with (first | (go_at_call 13; refine (clone_nil _).mono ?_; rintro e w' ⟨rfl, hw⟩; have hw' := hw.symm; clear hw; subst hw') | (go_at_call 12; go_in) | (go_at_call 14; refine (app14_w0 Q l s _ (by omega) HQ.out HL.out).mono ?_))
  rintro e w3 ⟨g, cp, rfl, hg1, hg2, hg2', hrd⟩
  have HRD : Hid (Reads w g 0 0 l [] Q w3) := hrd
  clear hrd
  go_wp2
  refine wp_loop_rounds 1 ?_
  rw [rounds_succ]
  go_wp2_with fail
  refine (unq_w g 0 l _ s.size s Q _ rfl (by omega) HQ.out HL.out (fun i hi => HRD.out.2.1 i hi)).mono ?_
  rintro e w5 ⟨hb5, (⟨hm0, ao5, cp5, rfl⟩ | ⟨g5, cp5, rfl, hc5⟩)⟩
  · have HB5 : Hid (Below w.heap.size w w5) := HRD.out.2.2.2.trans (hb5.mono HRD.out.2.2.2.size)
    have hz : (s.size : Int) ≤ 0 := by omega
    have tz : ((0 : Int) != (s.size : Int)) = false := by simp; omega
    clear HRD hb5 hm0
    go_wp2
    refine wp_loop_rounds 1 ?_
    rw [rounds_succ]
    go_wp2
    go_ret
    exact ⟨rfl, HB5.out⟩
  · have HD : Hid (Decoded w g5 s w5) := ⟨hc5, HRD.out.2.2.2.trans (hb5.mono HRD.out.2.2.2.size)⟩
    clear HRD hb5 hc5
    go_wp2
    go_loopw [11] (fun kv wq => ∃ j : Nat, j ≤ s.size ∧ kv = .int .i64 j ∧ Hid (Decoded w g5 s wq)) (fun kv _ => s.size - (intOf kv).toNat)
    case atStart => exact ⟨0, Nat.zero_le _, rfl, HD⟩
    case round =>
      obtain ⟨j, hj, rfl, HJ⟩ := hrel
      clear HD
      by_cases hlt2 : j < s.size
      · have c1 := HJ.out.1 j hlt2
        have b1 : (j : Int) < (s.size : Int) := by omega
        go_wp2
        go_quiet (fail)
        go_wp2
        go_roundw
        case rel => exact ⟨j + 1, by omega, by go_num, HJ.out.drewN _⟩
        case measure => simp [intOf]; omega
      · go_wp2
        go_ret
        exact ⟨rfl, HJ.out.2⟩

theorem walk (a0 : Option Addr) (len0 cap0 : Nat) (z0 : List Int) (a1 : ByteArray) (w : World) (w0 : IsRow .u8 w a0 len0 cap0 z0) (w1 : a1.size ≤ maxLen) :
    Calls Try.prog 3 #[.slice a0 len0 cap0, .string a1] w fun e w' => e = .returned (.bool true) ∧ Below w.heap.size w w' := by
  unfold maxLen at w1
  have hl0 : len0 ≤ 9223372036854775807 := by
    rcases w0 with ⟨_, h, _⟩ | ⟨x, _, h1, h2, _⟩
    · omega
    · unfold maxLen at h2; omega
  by_cases hlen : len0 ≤ 65536
  case neg =>
    clear w0
    go_enter Try.func3, Try.ntmps3
    go_wp2
    all_goals
      go_ret
      exact ⟨rfl, Below.refl _ _⟩
  by_cases hs : a1.size ≤ 65536
  case neg =>
    clear w0
    go_enter Try.func3, Try.ntmps3
    go_wp2
    all_goals
      go_ret
      exact ⟨rfl, Below.refl _ _⟩
  rcases w0 with ⟨rfl, rfl, rfl, rfl⟩ | ⟨x, rfl, hlc, _, hz, hcell, _⟩
  · exact walk_nil w a1 hs
  · by_cases h0 : len0 = 0
    · subst h0
      exact walk_some w 0 [] (some x) cap0 a1 (by omega) hs (clone_empty x cap0 w)
    · obtain ⟨b, off, rfl, hc⟩ := ints_at hcell (by omega)
      refine walk_some w len0 (z0.take len0) _ cap0 a1 hlen hs (clone_some b off len0 cap0 (z0.take len0) w (by simp; omega) (by omega) ?_)
      intro i hi
      rw [hc i (by omega)]
      simp [hi]

end Go.Proofs.Qxb6000664a.fnAppendStringRoundTrip
