/-
  THE WALK OF evtB1UnquoteJSON (15), at the quoted form of a string.
-/
import Derived.Test.Qxb6000664aAppWalk
import Derived.Test.Qxb6000664aHex
namespace Go.Proofs.Qxb6000664a
open Go.RowKit
set_option linter.unusedVariables false
set_option linter.unusedSimpArgs false

/-! where a byte's writing stands in the quoted form -/
theorem quo_parts (bs : List Int) (k : Nat) (hk : k < bs.length) : Esc.quo bs = (34 :: Esc.escs (bs.take k)) ++ (Esc.esc (bs[k]?.getD 0) ++ (Esc.escs (bs.drop (k + 1)) ++ [34])) := by
  have e : bs = bs.take k ++ (bs[k]?.getD 0 :: bs.drop (k + 1)) := by
    have h := List.take_append_drop k bs
    rw [List.drop_eq_getElem_cons hk] at h
    simp [hk]
  conv => lhs; rw [e]
  rw [Esc.quo, Esc.escs_append]
  simp [Esc.escs]
theorem quo_at (bs : List Int) (k t : Nat) (hk : k < bs.length) (ht : t < (Esc.esc (bs[k]?.getD 0)).length) :
    (Esc.quo bs)[1 + (Esc.escs (bs.take k)).length + t]?.getD 0 = (Esc.esc (bs[k]?.getD 0))[t]?.getD 0 := by
  rw [quo_parts bs k hk, List.getElem?_append_right (by simp; omega)]
  have e : 1 + (Esc.escs (bs.take k)).length + t - (34 :: Esc.escs (bs.take k)).length = t := by simp; omega
  rw [e, List.getElem?_append_left ht]
theorem pos_bd (bs : List Int) (k : Nat) (hk : k < bs.length) : 1 + (Esc.escs (bs.take k)).length + (Esc.esc (bs[k]?.getD 0)).length + 1 ≤ (Esc.quo bs).length := by
  have h := congrArg List.length (quo_parts bs k hk)
  simp only [List.length_append, List.length_cons, List.length_nil] at h
  omega
theorem pos_next (bs : List Int) (k : Nat) (hk : k < bs.length) : 1 + (Esc.escs (bs.take (k + 1))).length = 1 + (Esc.escs (bs.take k)).length + (Esc.esc (bs[k]?.getD 0)).length := by
  rw [Esc.escs_take bs k hk, List.length_append]; omega

theorem hex24v (c x : Int) (h0 : 0 ≤ c) (h1 : c ≤ 255) (hx : hexV c = x) (w : World) : Calls Try.prog 24 #[.int .u8 c] w fun e w' => e = .returned (.int .i64 x) ∧ w = w' := by
  subst hx
  exact (hex24 c h0 h1 w).mono fun e w' ⟨he, hw⟩ => ⟨he, hw.symm⟩

theorem hexV_hexD (n : Int) (h0 : 0 ≤ n) (h1 : n < 16) : hexV (Esc.hexD n) = n ∧ 0 ≤ Esc.hexD n ∧ Esc.hexD n ≤ 255 := by
  unfold Esc.hexD
  by_cases h : n < 10
  · rw [if_pos h, hexV_d (by omega)]; omega
  · rw [if_neg h, hexV_a (by omega)]; omega

theorem one_cell (x : Int) : ∀ u ∈ [Value.int IntKind.u8 x], u.oneCell' = true := by intro u hu; simp at hu; subst hu; rfl

set_option maxRecDepth 20000 in
set_option maxHeartbeats 4000000 in
theorem unq15 (b off L cap : Nat) (bs : List Int) (w : World) (hbd : ∀ c ∈ bs, 0 ≤ c ∧ c ≤ 255) (hbl : bs.length ≤ 65536) (hL : (Esc.quo bs).length = L)
    (hc : ∀ i, i < L → w.cell? ⟨b, off + i, none⟩ = some (.int .u8 ((Esc.quo bs)[i]?.getD 0))) :
    Calls Try.prog 15 #[.slice (some ⟨b, off, none⟩) L cap] w fun e w' => ∃ v, e = .returned (.tuple #[v, .bool true]) ∧ Has w.heap.size w bs v w' := by
  obtain ⟨i0, hi, hz0, hz1, hz2⟩ := info_parts info5
  have hq1 := Esc.quo_len bs
  have hq2 := Esc.escs_len bs
  rw [hL] at hq1
  have hl1 : 2 ≤ L := by omega
  have hl2 : L ≤ 400000 := by omega
  have HE : Hid (1 + (Esc.escs (bs.take bs.length)).length = L - 1) := by show _ = _; rw [List.take_length]; omega
  have c0 : w.cell? ⟨b, off, none⟩ = some (.int .u8 34) := by
    have h := hc 0 (by omega)
    have e : (Esc.quo bs)[0]?.getD 0 = 34 := by simp [Esc.quo]
    rw [e] at h; simpa using h
  have cz : w.cell? ⟨b, off + (L - 1), none⟩ = some (.int .u8 34) := by
    have h := hc (L - 1) (by omega)
    have e : (Esc.quo bs)[L - 1]?.getD 0 = 34 := by
      have e2 : Esc.quo bs = (34 :: Esc.escs bs) ++ [34] := by simp [Esc.quo]
      rw [← hL, e2]; simp
    rw [e] at h; exact h
  have hbB : b < w.heap.size := World.block_lt_of_cell? w ⟨b, off, none⟩ c0
  have HC : Hid (∀ i, i < L → w.cell? ⟨b, off + i, none⟩ = some (.int .u8 ((Esc.quo bs)[i]?.getD 0))) := hc
  have HLL : Hid ((Esc.quo bs).length = L) := hL
  have HBD : Hid (∀ c ∈ bs, 0 ≤ c ∧ c ≤ 255) := hbd
  have n0 : ¬ (L : Int) < 2 := by omega
  clear hq1 hq2 hc hL hbd
  go_enter Try.func15, Try.ntmps15
  go_wp2_with (at_make; refine wpList_make_own _ rfl _ _ 22 rfl w.heap.size 5 i0 (.int .u8 0) 1 Try.underlying22 hi hz0 hz1 _ _ _ (L - 1) rfl rfl (by omega) ?_ ?_ (Nat.le_refl _) ?_)
  · first | (rw [hz2]; omega) | omega
  · unfold maxLen; omega
  intro w1 hown hgrow
  have HH : Hid (Has w.heap.size w [] (.slice (some ⟨w.heap.size, 0, none⟩) 0 (L - 1)) w1) :=
    ⟨hown, (Below.refl _ _).grown hgrow (Nat.le_refl _) (by intro k hk; cases hk), hgrow.size⟩
  clear hown hgrow c0 cz
  go_wp2
  go_loopw [5, 6] (fun v pv wr => ∃ (k p : Nat), k ≤ bs.length ∧ Hid (p = 1 + (Esc.escs (bs.take k)).length) ∧ p ≤ L - 1 ∧ pv = .int .i64 p ∧ Hid (Has w.heap.size w (bs.take k) v wr)) (fun _ pv _ => L - (intOf pv).toNat)
  case atStart => exact ⟨0, 1, by omega, rfl, by omega, rfl, HH⟩
  case round =>
    obtain ⟨k, p, hk, HP, hp, rfl, HA⟩ := hrel
    clear HH
    have hkl : (bs.take k).length = k := by simp; omega
    by_cases hlt : k < bs.length
    · obtain ⟨c, hcz⟩ : ∃ c, c = bs[k]?.getD 0 := ⟨_, rfl⟩
      have hcb : 0 ≤ c ∧ c ≤ 255 := by
        rw [hcz, List.getElem?_eq_getElem hlt]; exact HBD.out _ (List.getElem_mem hlt)
      obtain ⟨hc0, hc1⟩ := hcb
      have HPB : Hid (p + (Esc.esc c).length + 1 ≤ L) := by
        have h := pos_bd bs k hlt
        rw [← HP.out, ← hcz, HLL.out] at h; exact h
      have HPN : Hid (p + (Esc.esc c).length = 1 + (Esc.escs (bs.take (k + 1))).length) := by
        have h := pos_next bs k hlt
        rw [← HP.out, ← hcz] at h; exact h.symm
      have HAT : Hid (∀ t, t < (Esc.esc c).length → wr.cell? ⟨b, off + (p + t), none⟩ = some (.int .u8 ((Esc.esc c)[t]?.getD 0))) := by
        intro t ht
        have h1 := HPB.out
        have h := quo_at bs k t hlt (by rw [← hcz]; exact ht)
        rw [← HP.out, ← hcz] at h
        rw [← h]
        exact (HA.out.2.1.cell (p := ⟨b, off + (p + t), none⟩) hbB).trans (HC.out (p + t) (by omega))
      have HTK : Hid (bs.take (k + 1) = bs.take k ++ [c]) := by
        have h := Esc.take_succ_getD bs k hlt
        rw [← hcz] at h; exact h
      clear hcz HP
      obtain ⟨T, hT⟩ : ∃ T, T = bs.take k := ⟨_, rfl⟩
      rw [← hT] at HA HTK hkl
      have hTl : T.length ≤ 65536 := by omega
      clear hT hkl
      by_cases hpl : 32 ≤ c ∧ ¬ c = 34 ∧ ¬ c = 92
      · obtain ⟨h32, h34, h92⟩ := hpl
        rw [Esc.esc_plain h32 h34 h92] at HPB HPN HAT
        have q0 := HAT.out 0 (by simp)
        simp only [Nat.add_zero] at q0
        simp at q0
        have hpb : p + 1 + 1 ≤ L := HPB.out
        have HPN : Hid (p + 1 = 1 + (Esc.escs (bs.take (k + 1))).length) := HPN.out
        clear HPB HAT
        have t34 : (c == 34) = false := by simpa using h34
        have t92 : (c != 92) = true := by simpa using h92
        have t32 : ¬ c < 32 := by omega
        clear h34 h92
        go_wp2_with (at_builtin; refine wpList_append_own _ rfl (.tmp 50) (.tmp 52) 22 rfl w.heap.size 5 i0 (.int .u8 0) 1 1 Try.underlying22 hi hz0 hz1 hz2 rfl (by decide) _ _ _ rfl (HA.out.1.alloc _) ⟨wr.heap.size, 0, none⟩ 1 1 [.int .u8 c] rfl rfl (cell_one_new _ _ _) (one_cell _) (by unfold maxLen; omega) (by omega) (HA.out.alloc _).2.2 ?_)
        intro v2 w2 hown2 hgrow2 _
        have H2 : Hid (Has w.heap.size w (T ++ [c]) v2 w2) := (HA.out.alloc _).more (news := [c]) rfl rfl hown2 hgrow2
        rw [← HTK.out] at H2
        clear hown2 hgrow2 HA
        go_wp2
        go_roundw
        case rel => exact ⟨k + 1, p + 1, by omega, HPN, by omega, by go_num, H2⟩
        case measure => simp [intOf]; omega
      by_cases h2 : c = 34 ∨ c = 92
      · clear hpl
        rw [Esc.esc_two h2] at HPB HPN HAT
        have q0 := HAT.out 0 (by simp)
        have q1 := HAT.out 1 (by simp)
        simp only [Nat.add_zero] at q0
        simp at q0 q1
        have hpb : p + 2 + 1 ≤ L := HPB.out
        have HPN : Hid (p + 2 = 1 + (Esc.escs (bs.take (k + 1))).length) := HPN.out
        clear HPB HAT
        have tb : ((c == 34) = true) ∨ ((c == 34) = false ∧ (c == 92) = true) := by rcases h2 with h | h <;> simp [h]
        clear h2
        rcases tb with t34 | ⟨t34, t92⟩
        all_goals
          go_wp2_with (at_builtin; refine wpList_append_own _ rfl (.tmp 70) (.tmp 72) 22 rfl w.heap.size 5 i0 (.int .u8 0) 1 1 Try.underlying22 hi hz0 hz1 hz2 rfl (by decide) _ _ _ rfl (HA.out.1.alloc _) ⟨wr.heap.size, 0, none⟩ 1 1 [.int .u8 c] rfl rfl (cell_one_new _ _ _) (one_cell _) (by unfold maxLen; omega) (by omega) (HA.out.alloc _).2.2 ?_)
          intro v2 w2 hown2 hgrow2 _
          have H2 : Hid (Has w.heap.size w (T ++ [c]) v2 w2) := (HA.out.alloc _).more (news := [c]) rfl rfl hown2 hgrow2
          rw [← HTK.out] at H2
          clear hown2 hgrow2 HA
          go_wp2
          go_roundw
          case rel => exact ⟨k + 1, p + 2, by omega, HPN, by omega, by go_num, H2⟩
          case measure => simp [intOf]; omega
      by_cases h8 : c = 8
      · subst h8
        have e8 : Esc.esc 8 = [92, 98] := by decide
        rw [e8] at HPB HPN HAT
        have q0 := HAT.out 0 (by simp)
        have q1 := HAT.out 1 (by simp)
        simp only [Nat.add_zero] at q0
        simp at q0 q1
        have hpb : p + 2 + 1 ≤ L := HPB.out
        have HPN : Hid (p + 2 = 1 + (Esc.escs (bs.take (k + 1))).length) := HPN.out
        clear HPB HAT
        clear e8 hpl h2
        go_wp2_with (at_builtin; refine wpList_append_own _ rfl (.tmp 78) (.tmp 79) 22 rfl w.heap.size 5 i0 (.int .u8 0) 1 1 Try.underlying22 hi hz0 hz1 hz2 rfl (by decide) _ _ _ rfl (HA.out.1.alloc _) ⟨wr.heap.size, 0, none⟩ 1 1 [.int .u8 8] rfl rfl (cell_one_new _ _ _) (one_cell _) (by unfold maxLen; omega) (by omega) (HA.out.alloc _).2.2 ?_)
        intro v2 w2 hown2 hgrow2 _
        have H2 : Hid (Has w.heap.size w (T ++ [8]) v2 w2) := (HA.out.alloc _).more (news := [8]) rfl rfl hown2 hgrow2
        rw [← HTK.out] at H2
        clear hown2 hgrow2 HA
        go_wp2
        go_roundw
        case rel => exact ⟨k + 1, p + 2, by omega, HPN, by omega, by go_num, H2⟩
        case measure => simp [intOf]; omega
      by_cases h9 : c = 9
      · subst h9
        have e9 : Esc.esc 9 = [92, 116] := by decide
        rw [e9] at HPB HPN HAT
        have q0 := HAT.out 0 (by simp)
        have q1 := HAT.out 1 (by simp)
        simp only [Nat.add_zero] at q0
        simp at q0 q1
        have hpb : p + 2 + 1 ≤ L := HPB.out
        have HPN : Hid (p + 2 = 1 + (Esc.escs (bs.take (k + 1))).length) := HPN.out
        clear HPB HAT
        clear e9 hpl h2
        go_wp2_with (at_builtin; refine wpList_append_own _ rfl (.tmp 85) (.tmp 86) 22 rfl w.heap.size 5 i0 (.int .u8 0) 1 1 Try.underlying22 hi hz0 hz1 hz2 rfl (by decide) _ _ _ rfl (HA.out.1.alloc _) ⟨wr.heap.size, 0, none⟩ 1 1 [.int .u8 9] rfl rfl (cell_one_new _ _ _) (one_cell _) (by unfold maxLen; omega) (by omega) (HA.out.alloc _).2.2 ?_)
        intro v2 w2 hown2 hgrow2 _
        have H2 : Hid (Has w.heap.size w (T ++ [9]) v2 w2) := (HA.out.alloc _).more (news := [9]) rfl rfl hown2 hgrow2
        rw [← HTK.out] at H2
        clear hown2 hgrow2 HA
        go_wp2
        go_roundw
        case rel => exact ⟨k + 1, p + 2, by omega, HPN, by omega, by go_num, H2⟩
        case measure => simp [intOf]; omega
      by_cases h10 : c = 10
      · subst h10
        have e10 : Esc.esc 10 = [92, 110] := by decide
        rw [e10] at HPB HPN HAT
        have q0 := HAT.out 0 (by simp)
        have q1 := HAT.out 1 (by simp)
        simp only [Nat.add_zero] at q0
        simp at q0 q1
        have hpb : p + 2 + 1 ≤ L := HPB.out
        have HPN : Hid (p + 2 = 1 + (Esc.escs (bs.take (k + 1))).length) := HPN.out
        clear HPB HAT
        clear e10 hpl h2
        go_wp2_with (at_builtin; refine wpList_append_own _ rfl (.tmp 92) (.tmp 93) 22 rfl w.heap.size 5 i0 (.int .u8 0) 1 1 Try.underlying22 hi hz0 hz1 hz2 rfl (by decide) _ _ _ rfl (HA.out.1.alloc _) ⟨wr.heap.size, 0, none⟩ 1 1 [.int .u8 10] rfl rfl (cell_one_new _ _ _) (one_cell _) (by unfold maxLen; omega) (by omega) (HA.out.alloc _).2.2 ?_)
        intro v2 w2 hown2 hgrow2 _
        have H2 : Hid (Has w.heap.size w (T ++ [10]) v2 w2) := (HA.out.alloc _).more (news := [10]) rfl rfl hown2 hgrow2
        rw [← HTK.out] at H2
        clear hown2 hgrow2 HA
        go_wp2
        go_roundw
        case rel => exact ⟨k + 1, p + 2, by omega, HPN, by omega, by go_num, H2⟩
        case measure => simp [intOf]; omega
      by_cases h12 : c = 12
      · subst h12
        have e12 : Esc.esc 12 = [92, 102] := by decide
        rw [e12] at HPB HPN HAT
        have q0 := HAT.out 0 (by simp)
        have q1 := HAT.out 1 (by simp)
        simp only [Nat.add_zero] at q0
        simp at q0 q1
        have hpb : p + 2 + 1 ≤ L := HPB.out
        have HPN : Hid (p + 2 = 1 + (Esc.escs (bs.take (k + 1))).length) := HPN.out
        clear HPB HAT
        clear e12 hpl h2
        go_wp2_with (at_builtin; refine wpList_append_own _ rfl (.tmp 99) (.tmp 100) 22 rfl w.heap.size 5 i0 (.int .u8 0) 1 1 Try.underlying22 hi hz0 hz1 hz2 rfl (by decide) _ _ _ rfl (HA.out.1.alloc _) ⟨wr.heap.size, 0, none⟩ 1 1 [.int .u8 12] rfl rfl (cell_one_new _ _ _) (one_cell _) (by unfold maxLen; omega) (by omega) (HA.out.alloc _).2.2 ?_)
        intro v2 w2 hown2 hgrow2 _
        have H2 : Hid (Has w.heap.size w (T ++ [12]) v2 w2) := (HA.out.alloc _).more (news := [12]) rfl rfl hown2 hgrow2
        rw [← HTK.out] at H2
        clear hown2 hgrow2 HA
        go_wp2
        go_roundw
        case rel => exact ⟨k + 1, p + 2, by omega, HPN, by omega, by go_num, H2⟩
        case measure => simp [intOf]; omega
      by_cases h13 : c = 13
      · subst h13
        have e13 : Esc.esc 13 = [92, 114] := by decide
        rw [e13] at HPB HPN HAT
        have q0 := HAT.out 0 (by simp)
        have q1 := HAT.out 1 (by simp)
        simp only [Nat.add_zero] at q0
        simp at q0 q1
        have hpb : p + 2 + 1 ≤ L := HPB.out
        have HPN : Hid (p + 2 = 1 + (Esc.escs (bs.take (k + 1))).length) := HPN.out
        clear HPB HAT
        clear e13 hpl h2
        go_wp2_with (at_builtin; refine wpList_append_own _ rfl (.tmp 106) (.tmp 107) 22 rfl w.heap.size 5 i0 (.int .u8 0) 1 1 Try.underlying22 hi hz0 hz1 hz2 rfl (by decide) _ _ _ rfl (HA.out.1.alloc _) ⟨wr.heap.size, 0, none⟩ 1 1 [.int .u8 13] rfl rfl (cell_one_new _ _ _) (one_cell _) (by unfold maxLen; omega) (by omega) (HA.out.alloc _).2.2 ?_)
        intro v2 w2 hown2 hgrow2 _
        have H2 : Hid (Has w.heap.size w (T ++ [13]) v2 w2) := (HA.out.alloc _).more (news := [13]) rfl rfl hown2 hgrow2
        rw [← HTK.out] at H2
        clear hown2 hgrow2 HA
        go_wp2
        go_roundw
        case rel => exact ⟨k + 1, p + 2, by omega, HPN, by omega, by go_num, H2⟩
        case measure => simp [intOf]; omega
      have hlo : c < 32 := by omega
      rw [Esc.esc_hex hlo h8 h9 h10 h12 h13] at HPB HPN HAT
      have q0 := HAT.out 0 (by simp)
      have q1 := HAT.out 1 (by simp)
      have q2 := HAT.out 2 (by simp)
      have q3 := HAT.out 3 (by simp)
      have q4 := HAT.out 4 (by simp)
      have q5 := HAT.out 5 (by simp)
      simp only [Nat.add_zero] at q0
      simp at q0 q1 q2 q3 q4 q5
      have hpb : p + 6 + 1 ≤ L := HPB.out
      have HPN : Hid (p + 6 = 1 + (Esc.escs (bs.take (k + 1))).length) := HPN.out
      clear HPB HAT
      have HX1 := hexV_hexD (c / 16) (by omega) (by omega)
      have HX2 := hexV_hexD (c % 16) (by omega) (by omega)
      have HV : Hid (c / 16 * 16 + c % 16 = c) := by show _ = _; omega
      have x1a : 0 ≤ c / 16 := by omega
      have x1b : c / 16 ≤ 1 := by omega
      have x2a : 0 ≤ c % 16 := by omega
      have x2b : c % 16 ≤ 15 := by omega
      generalize Esc.hexD (c / 16) = d1 at q4 HX1
      generalize Esc.hexD (c % 16) = d2 at q5 HX2
      generalize c / 16 = x1 at HX1 HV x1a x1b
      generalize c % 16 = x2 at HX2 HV x2a x2b
      obtain ⟨hx1, hd1a, hd1b⟩ := HX1
      obtain ⟨hx2, hd2a, hd2b⟩ := HX2
      have X1 : Hid (hexV d1 = x1) := hx1
      have X2 : Hid (hexV d2 = x2) := hx2
      clear hx1 hx2 hpl h2 h8 h9 h10 h12 h13
      go_wp2
      refine wp_loop_rounds 5 ?_
      rw [rounds_succ]
      go_wp2_with fail
      refine (hex24v 48 0 (by omega) (by omega) rfl _).mono ?_
      rintro e w' ⟨rfl, rfl⟩
      go_wp2_with fail
      rw [rounds_succ]
      go_wp2_with fail
      refine (hex24v 48 0 (by omega) (by omega) rfl _).mono ?_
      rintro e w' ⟨rfl, rfl⟩
      go_wp2_with fail
      rw [rounds_succ]
      go_wp2_with fail
      refine (hex24v d1 x1 (by omega) (by omega) X1.out _).mono ?_
      rintro e w' ⟨rfl, rfl⟩
      go_wp2_with fail
      rw [rounds_succ]
      go_wp2_with fail
      refine (hex24v d2 x2 (by omega) (by omega) X2.out _).mono ?_
      rintro e w' ⟨rfl, rfl⟩
      go_wp2_with fail
      rw [rounds_succ]
      go_wp2_with (at_builtin; refine wpList_append_own _ rfl (.tmp 136) (.tmp 139) 22 rfl w.heap.size 5 i0 (.int .u8 0) 1 1 Try.underlying22 hi hz0 hz1 hz2 rfl (by decide) _ _ _ rfl (HA.out.1.alloc _) ⟨wr.heap.size, 0, none⟩ 1 1 [.int .u8 (x1 * 16 + x2)] rfl rfl (cell_one_new _ _ _) (one_cell _) (by unfold maxLen; omega) (by omega) (HA.out.alloc _).2.2 ?_)
      intro v2 w2 hown2 hgrow2 _
      have H2 : Hid (Has w.heap.size w (T ++ [(x1 * 16 + x2)]) v2 w2) := (HA.out.alloc _).more (news := [(x1 * 16 + x2)]) rfl rfl hown2 hgrow2
      rw [HV.out] at H2
      rw [← HTK.out] at H2
      clear hown2 hgrow2 HA
      go_wp2
      go_roundw
      case rel => exact ⟨k + 1, p + 6, by omega, HPN, by omega, by go_num, H2⟩
      case measure => simp [intOf]; omega
    · obtain rfl : k = bs.length := by omega
      have hpe : p = L - 1 := by rw [HP.out]; exact HE.out
      have hpg : ¬ (p : Int) < (L : Int) - 1 := by omega
      rw [List.take_length] at HA
      clear HP hpe
      go_wp2
      go_ret2
      exact ⟨_, rfl, HA.out⟩
end Go.Proofs.Qxb6000664a
