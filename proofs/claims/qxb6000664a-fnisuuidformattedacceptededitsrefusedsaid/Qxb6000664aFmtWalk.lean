/-
  THE WALKS OF evtB1HexChar (32) AND OF evtB1FormatUUID (22).
-/
import Derived.Test.Qxb6000664aUuidWalk
import Derived.Test.Qxb6000664aMem
namespace Go.Proofs.Qxb6000664a
open Go.RowKit
set_option linter.unusedVariables false
set_option linter.unusedSimpArgs false

/-- a byte that is a hexadecimal digit. -/
def Dig (x : Int) : Prop := hexB x = true ∧ 0 ≤ x ∧ x ≤ 255

set_option maxHeartbeats 1000000 in
theorem hexc32 (n : Int) (up : Bool) (h0 : 0 ≤ n) (h1 : n ≤ 15) (w : World) : Calls Try.prog 32 #[.int .u8 n, .bool up] w fun e w' => ∃ x, e = .returned (.int .u8 x) ∧ Dig x ∧ w = w' := by
  by_cases d : n < 10
  · go_enter Try.func32, Try.ntmps32
    go_wp2
    go_ret
    exact ⟨_, rfl, ⟨hexB_true (by omega), by omega, by omega⟩, rfl⟩
  · cases up with
    | true =>
      go_enter Try.func32, Try.ntmps32
      go_wp2
      go_ret
      exact ⟨_, rfl, ⟨hexB_true (by omega), by omega, by omega⟩, rfl⟩
    | false =>
      go_enter Try.func32, Try.ntmps32
      go_wp2
      go_ret
      exact ⟨_, rfl, ⟨hexB_true (by omega), by omega, by omega⟩, rfl⟩

theorem and15' (c : Nat) (h : c < 256) : bits BinOp.and IntKind.u8 (c : Int) 15 = (c : Int) % 16 := by
  have all : ∀ c : Fin 256, bits BinOp.and IntKind.u8 ((c.val : Nat) : Int) 15 = ((c.val : Nat) : Int) % 16 := by decide +kernel
  exact all ⟨c, h⟩

/-! a prefix that is right as far as it goes -/
def Pre (T : List Int) : Prop := uuidFrom 0 T = true ∧ ∀ x ∈ T, 0 ≤ x ∧ x ≤ 255

theorem from_snoc : ∀ (T : List Int) (i : Nat) (c : Int), uuidFrom i (T ++ [c]) = (uuidFrom i T && uuidAt (i + T.length) c)
  | [], i, c => by simp [uuidFrom]
  | x :: T, i, c => by
    have e : i + 1 + T.length = i + (T.length + 1) := by omega
    rw [List.cons_append, uuidFrom, from_snoc T (i + 1) c, uuidFrom, List.length_cons, e, Bool.and_assoc]
theorem Pre.nil : Pre [] := ⟨rfl, fun x hx => by cases hx⟩
theorem Pre.snoc {T : List Int} {c : Int} (h : Pre T) (ha : uuidAt T.length c = true) (h0 : 0 ≤ c) (h1 : c ≤ 255) : Pre (T ++ [c]) := by
  refine ⟨by rw [from_snoc, h.1, Nat.zero_add, ha]; rfl, fun x hx => ?_⟩
  rw [List.mem_append] at hx
  rcases hx with hx | hx
  · exact h.2 x hx
  · simp at hx; subst hx; exact ⟨h0, h1⟩
theorem Pre.hyph {T : List Int} (h : Pre T) (hh : hyph T.length = true) : Pre (T ++ [45]) := h.snoc (by simp [uuidAt, hh]) (by omega) (by omega)
theorem Pre.dig {T : List Int} {c : Int} (h : Pre T) (hh : Qxb6000664a.hyph T.length = false) (hd : Dig c) : Pre (T ++ [c]) := h.snoc (by simp [uuidAt, hh, hd.1]) hd.2.1 hd.2.2

/-- how many hyphens stand ahead of digit k. -/
def nh (k : Nat) : Nat := (if 8 < k then 1 else 0) + (if 12 < k then 1 else 0) + (if 16 < k then 1 else 0) + (if 20 < k then 1 else 0)
theorem nh_step {k : Nat} (h : ¬ (k = 8 ∨ k = 12 ∨ k = 16 ∨ k = 20)) : nh (k + 1) = nh k := by
  unfold nh
  repeat' split
  all_goals omega
theorem nh_hyph {k : Nat} (hk : k < 32) (h : ¬ (k = 8 ∨ k = 12 ∨ k = 16 ∨ k = 20)) : hyph (k + nh k) = false := by
  simp only [hyph, Bool.or_eq_false_iff, beq_eq_false_iff_ne, ne_eq]
  unfold nh
  repeat' split
  all_goals omega

theorem nh_le (k : Nat) : nh k ≤ 4 := by
  unfold nh
  repeat' split
  all_goals omega

/-- what is written by now, in block numbers from B on, and nothing below B has turned. -/
def Row8 (B : Nat) (w0 : World) (l : List Int) (v : Value) (w : World) : Prop := w.ownsRow B 5 1 v l.length (cells8 l) ∧ Below B w0 w ∧ B ≤ w.heap.size
theorem Row8.alloc {B : Nat} {w0 w : World} {l : List Int} {v : Value} (h : Row8 B w0 l v w) (o : Obj) : Row8 B w0 l v (w.alloc o) :=
  ⟨h.1.alloc o, h.2.1.alloc h.2.2 o, by have := h.2.2; simp; omega⟩
theorem Row8.push {B : Nat} {w0 w w2 : World} {L : List Int} {x : Int} {v v2 : Value} (h : Row8 B w0 L v w) (hown : w2.ownsRow B 5 1 v2 (L.length + 1) (cells8 L ++ [.int .u8 x])) (hg : w.grownBy w2 v.ownBlock) :
    Row8 B w0 (L ++ [x]) v2 w2 := by
  have e : cells8 (L ++ [x]) = cells8 L ++ [.int .u8 x] := by simp [cells8]
  refine ⟨?_, h.2.1.grown hg h.2.2 (fun k hk => (h.1.lt k hk).1), Nat.le_trans h.2.2 hg.size⟩
  rw [e, List.length_append]
  exact hown
theorem one_cell8 (x : Int) : ∀ u ∈ [Value.int IntKind.u8 x], u.oneCell' = true := by intro u hu; simp at hu; subst hu; rfl

/-- the sixteen bytes of an array, as its cells. -/
def Arr (A : Array Value) (bn : Nat → Nat) : Prop := A.size = 16 ∧ ∀ i, i < 16 → bn i < 256 ∧ A[i]? = some (.int .u8 (bn i : Int))

set_option maxRecDepth 20000 in
set_option maxHeartbeats 2000000 in
theorem fmt22 (A : Array Value) (bn : Nat → Nat) (m : Int) (w : World) (HA : Hid (Arr A bn)) (hm0 : 0 ≤ m) (hm1 : m ≤ 4294967295) :
    Calls Try.prog 22 #[.agg A, .int .u32 m] w fun e w' => ∃ v U, e = .returned v ∧ Row8 (w.heap.size + 1) (w.alloc (.cells A 33)) U v w' ∧ Pre U ∧ U.length = 36 := by
  obtain ⟨i0, hi, hz0, hz1, hz2⟩ := info_parts info5
  go_enter Try.func22, Try.ntmps22
  go_wp2_with (at_make; refine wpList_make_own _ rfl _ _ 22 rfl (w.heap.size + 1) 5 i0 (.int .u8 0) 1 Try.underlying22 hi hz0 hz1 _ _ _ 36 rfl rfl rfl ?_ ?_ ?_ ?_)
  · rw [hz2]; omega
  · unfold maxLen; omega
  · simp
  intro w2 hown hgrow
  have HR : Hid (Row8 (w.heap.size + 1) (w.alloc (.cells A 33)) [] (.slice (some ⟨w.heap.size + 1, 0, none⟩) 0 36) w2) :=
    ⟨hown, (Below.refl _ _).grown hgrow (by simp) (by intro k hk; cases hk), by have := hgrow.size; simp at this; omega⟩
  have HW : Hid (∀ i, i < 16 → (w.alloc (.cells A 33)).cell? ⟨w.heap.size, i, none⟩ = some (.int .u8 (bn i : Int))) := fun i h => by
    rw [World.cell?_alloc_at _ _ _ _ rfl]; exact (HA.out.2 i h).2
  clear hown hgrow
  go_wp2
  go_loopw [5, 6] (fun v kv wr => ∃ (k : Nat) (T : List Int), k ≤ 32 ∧ kv = .int .i64 k ∧ Hid (T.length = k + nh k) ∧ Hid (Pre T) ∧ Hid (Row8 (w.heap.size + 1) (w.alloc (.cells A 33)) T v wr)) (fun _ kv _ => 32 - (intOf kv).toNat)
  case atStart => exact ⟨0, [], by omega, rfl, rfl, Pre.nil, HR⟩
  case round =>
    obtain ⟨k, T, hk, rfl, HT, HP, HK⟩ := hrel
    clear HR
    by_cases hlt : k < 32
    · have hnh : nh k ≤ 4 := nh_le k
      have hTl : T.length ≤ 36 := by have := HT.out; omega
      have HCB : Hid (∀ wx, Below (w.heap.size + 1) (w.alloc (.cells A 33)) wx → wx.cell? ⟨w.heap.size, k / 2, none⟩ = some (.int .u8 (bn (k / 2) : Int))) := fun wx hb =>
        (hb.cell (p := ⟨w.heap.size, k / 2, none⟩) (by simp)).trans (HW.out (k / 2) (by omega))
      have hbn := (HA.out.2 (k / 2) (by omega)).1
      have hand := and15' (bn (k / 2)) hbn
      generalize bn (k / 2) = b at HCB hbn hand
      clear hnh
      by_cases hh : k = 8 ∨ k = 12 ∨ k = 16 ∨ k = 20
      · have hy : hyph T.length = true := by rw [HT.out]; rcases hh with rfl | rfl | rfl | rfl <;> rfl
        have hn : T.length + 2 = k + 1 + nh (k + 1) := by rw [HT.out]; rcases hh with rfl | rfl | rfl | rfl <;> rfl
        have hy2 : hyph (T.length + 1) = false := by rw [HT.out]; rcases hh with rfl | rfl | rfl | rfl <;> rfl
        have HP1 : Hid (Pre (T ++ [45])) := HP.out.hyph hy
        have HY2 : Hid (hyph (T ++ [45]).length = false) := by rw [List.length_append]; exact hy2
        have HN : Hid (T.length + 2 = k + 1 + nh (k + 1)) := hn
        clear hy hn hy2 HP HT
        rcases hh with rfl | rfl | rfl | rfl
        · go_wp2_with (first | (at_builtin; refine wpList_append_own _ rfl (.tmp 27) (.tmp 28) 22 rfl (w.heap.size + 1) 5 i0 (.int .u8 0) 1 1 Try.underlying22 hi hz0 hz1 hz2 rfl (by decide) _ _ _ rfl (HK.out.1.alloc _) ⟨wr.heap.size, 0, none⟩ 1 1 [.int .u8 45] rfl rfl (cell_one_new _ _ _) (one_cell8 _) (by unfold maxLen; omega) (by omega) (HK.out.alloc _).2.2 ?_) | (go_at_call 32; refine (hexc32 _ _ (by omega) (by omega) _).mono ?_; rintro e w' ⟨x, rfl, hdx, rfl⟩))
          intro v2 w3 hown hgrow _
          have H2 : Hid (Row8 (w.heap.size + 1) (w.alloc (.cells A 33)) (T ++ [45]) v2 w3) := (HK.out.alloc _).push hown hgrow
          clear hown hgrow HK
          have hcell : w3.cell? ⟨w.heap.size, 4, none⟩ = some (.int .u8 (b : Int)) := HCB.out w3 H2.out.2.1
          have hT2 : (T ++ [45]).length ≤ 37 := by simp; omega
          obtain ⟨T2, hT2e⟩ : ∃ T2, T2 = T ++ [45] := ⟨_, rfl⟩
          have HN2 : Hid (T2.length + 1 = 9 + nh 9) := by show _ = _; rw [hT2e, List.length_append]; exact HN.out
          rw [← hT2e] at H2 HP1 HY2 hT2
          clear hT2e HN HCB
          go_wp2_with (first | (at_builtin; refine wpList_append_own _ rfl (.tmp 43) (.tmp 52) 22 rfl (w.heap.size + 1) 5 i0 (.int .u8 0) 1 1 Try.underlying22 hi hz0 hz1 hz2 rfl (by decide) _ _ _ rfl (H2.out.1.alloc _) ⟨w3.heap.size, 0, none⟩ 1 1 [.int .u8 x] rfl rfl (cell_one_new _ _ _) (one_cell8 _) (by unfold maxLen; omega) (by omega) (H2.out.alloc _).2.2 ?_) | (go_at_call 32; refine (hexc32 _ _ (by omega) (by omega) _).mono ?_; rintro e w' ⟨x, rfl, hdx, rfl⟩))
          intro v3 w4 hown hgrow _
          have H3 : Hid (Row8 (w.heap.size + 1) (w.alloc (.cells A 33)) (T2 ++ [x]) v3 w4) := (H2.out.alloc _).push hown hgrow
          clear hown hgrow H2
          have HP3 : Hid (Pre (T2 ++ [x])) := HP1.out.dig HY2.out hdx
          have HN3 : Hid ((T2 ++ [x]).length = 9 + nh 9) := by rw [List.length_append]; exact HN2.out
          go_wp2
          go_roundw
          case rel => exact ⟨9, T2 ++ [x], by omega, rfl, HN3, HP3, H3⟩
          case measure => simp [intOf]
        · go_wp2_with (first | (at_builtin; refine wpList_append_own _ rfl (.tmp 27) (.tmp 28) 22 rfl (w.heap.size + 1) 5 i0 (.int .u8 0) 1 1 Try.underlying22 hi hz0 hz1 hz2 rfl (by decide) _ _ _ rfl (HK.out.1.alloc _) ⟨wr.heap.size, 0, none⟩ 1 1 [.int .u8 45] rfl rfl (cell_one_new _ _ _) (one_cell8 _) (by unfold maxLen; omega) (by omega) (HK.out.alloc _).2.2 ?_) | (go_at_call 32; refine (hexc32 _ _ (by omega) (by omega) _).mono ?_; rintro e w' ⟨x, rfl, hdx, rfl⟩))
          intro v2 w3 hown hgrow _
          have H2 : Hid (Row8 (w.heap.size + 1) (w.alloc (.cells A 33)) (T ++ [45]) v2 w3) := (HK.out.alloc _).push hown hgrow
          clear hown hgrow HK
          have hcell : w3.cell? ⟨w.heap.size, 6, none⟩ = some (.int .u8 (b : Int)) := HCB.out w3 H2.out.2.1
          have hT2 : (T ++ [45]).length ≤ 37 := by simp; omega
          obtain ⟨T2, hT2e⟩ : ∃ T2, T2 = T ++ [45] := ⟨_, rfl⟩
          have HN2 : Hid (T2.length + 1 = 13 + nh 13) := by show _ = _; rw [hT2e, List.length_append]; exact HN.out
          rw [← hT2e] at H2 HP1 HY2 hT2
          clear hT2e HN HCB
          go_wp2_with (first | (at_builtin; refine wpList_append_own _ rfl (.tmp 43) (.tmp 52) 22 rfl (w.heap.size + 1) 5 i0 (.int .u8 0) 1 1 Try.underlying22 hi hz0 hz1 hz2 rfl (by decide) _ _ _ rfl (H2.out.1.alloc _) ⟨w3.heap.size, 0, none⟩ 1 1 [.int .u8 x] rfl rfl (cell_one_new _ _ _) (one_cell8 _) (by unfold maxLen; omega) (by omega) (H2.out.alloc _).2.2 ?_) | (go_at_call 32; refine (hexc32 _ _ (by omega) (by omega) _).mono ?_; rintro e w' ⟨x, rfl, hdx, rfl⟩))
          intro v3 w4 hown hgrow _
          have H3 : Hid (Row8 (w.heap.size + 1) (w.alloc (.cells A 33)) (T2 ++ [x]) v3 w4) := (H2.out.alloc _).push hown hgrow
          clear hown hgrow H2
          have HP3 : Hid (Pre (T2 ++ [x])) := HP1.out.dig HY2.out hdx
          have HN3 : Hid ((T2 ++ [x]).length = 13 + nh 13) := by rw [List.length_append]; exact HN2.out
          go_wp2
          go_roundw
          case rel => exact ⟨13, T2 ++ [x], by omega, rfl, HN3, HP3, H3⟩
          case measure => simp [intOf]
        · go_wp2_with (first | (at_builtin; refine wpList_append_own _ rfl (.tmp 27) (.tmp 28) 22 rfl (w.heap.size + 1) 5 i0 (.int .u8 0) 1 1 Try.underlying22 hi hz0 hz1 hz2 rfl (by decide) _ _ _ rfl (HK.out.1.alloc _) ⟨wr.heap.size, 0, none⟩ 1 1 [.int .u8 45] rfl rfl (cell_one_new _ _ _) (one_cell8 _) (by unfold maxLen; omega) (by omega) (HK.out.alloc _).2.2 ?_) | (go_at_call 32; refine (hexc32 _ _ (by omega) (by omega) _).mono ?_; rintro e w' ⟨x, rfl, hdx, rfl⟩))
          intro v2 w3 hown hgrow _
          have H2 : Hid (Row8 (w.heap.size + 1) (w.alloc (.cells A 33)) (T ++ [45]) v2 w3) := (HK.out.alloc _).push hown hgrow
          clear hown hgrow HK
          have hcell : w3.cell? ⟨w.heap.size, 8, none⟩ = some (.int .u8 (b : Int)) := HCB.out w3 H2.out.2.1
          have hT2 : (T ++ [45]).length ≤ 37 := by simp; omega
          obtain ⟨T2, hT2e⟩ : ∃ T2, T2 = T ++ [45] := ⟨_, rfl⟩
          have HN2 : Hid (T2.length + 1 = 17 + nh 17) := by show _ = _; rw [hT2e, List.length_append]; exact HN.out
          rw [← hT2e] at H2 HP1 HY2 hT2
          clear hT2e HN HCB
          go_wp2_with (first | (at_builtin; refine wpList_append_own _ rfl (.tmp 43) (.tmp 52) 22 rfl (w.heap.size + 1) 5 i0 (.int .u8 0) 1 1 Try.underlying22 hi hz0 hz1 hz2 rfl (by decide) _ _ _ rfl (H2.out.1.alloc _) ⟨w3.heap.size, 0, none⟩ 1 1 [.int .u8 x] rfl rfl (cell_one_new _ _ _) (one_cell8 _) (by unfold maxLen; omega) (by omega) (H2.out.alloc _).2.2 ?_) | (go_at_call 32; refine (hexc32 _ _ (by omega) (by omega) _).mono ?_; rintro e w' ⟨x, rfl, hdx, rfl⟩))
          intro v3 w4 hown hgrow _
          have H3 : Hid (Row8 (w.heap.size + 1) (w.alloc (.cells A 33)) (T2 ++ [x]) v3 w4) := (H2.out.alloc _).push hown hgrow
          clear hown hgrow H2
          have HP3 : Hid (Pre (T2 ++ [x])) := HP1.out.dig HY2.out hdx
          have HN3 : Hid ((T2 ++ [x]).length = 17 + nh 17) := by rw [List.length_append]; exact HN2.out
          go_wp2
          go_roundw
          case rel => exact ⟨17, T2 ++ [x], by omega, rfl, HN3, HP3, H3⟩
          case measure => simp [intOf]
        · go_wp2_with (first | (at_builtin; refine wpList_append_own _ rfl (.tmp 27) (.tmp 28) 22 rfl (w.heap.size + 1) 5 i0 (.int .u8 0) 1 1 Try.underlying22 hi hz0 hz1 hz2 rfl (by decide) _ _ _ rfl (HK.out.1.alloc _) ⟨wr.heap.size, 0, none⟩ 1 1 [.int .u8 45] rfl rfl (cell_one_new _ _ _) (one_cell8 _) (by unfold maxLen; omega) (by omega) (HK.out.alloc _).2.2 ?_) | (go_at_call 32; refine (hexc32 _ _ (by omega) (by omega) _).mono ?_; rintro e w' ⟨x, rfl, hdx, rfl⟩))
          intro v2 w3 hown hgrow _
          have H2 : Hid (Row8 (w.heap.size + 1) (w.alloc (.cells A 33)) (T ++ [45]) v2 w3) := (HK.out.alloc _).push hown hgrow
          clear hown hgrow HK
          have hcell : w3.cell? ⟨w.heap.size, 10, none⟩ = some (.int .u8 (b : Int)) := HCB.out w3 H2.out.2.1
          have hT2 : (T ++ [45]).length ≤ 37 := by simp; omega
          obtain ⟨T2, hT2e⟩ : ∃ T2, T2 = T ++ [45] := ⟨_, rfl⟩
          have HN2 : Hid (T2.length + 1 = 21 + nh 21) := by show _ = _; rw [hT2e, List.length_append]; exact HN.out
          rw [← hT2e] at H2 HP1 HY2 hT2
          clear hT2e HN HCB
          go_wp2_with (first | (at_builtin; refine wpList_append_own _ rfl (.tmp 43) (.tmp 52) 22 rfl (w.heap.size + 1) 5 i0 (.int .u8 0) 1 1 Try.underlying22 hi hz0 hz1 hz2 rfl (by decide) _ _ _ rfl (H2.out.1.alloc _) ⟨w3.heap.size, 0, none⟩ 1 1 [.int .u8 x] rfl rfl (cell_one_new _ _ _) (one_cell8 _) (by unfold maxLen; omega) (by omega) (H2.out.alloc _).2.2 ?_) | (go_at_call 32; refine (hexc32 _ _ (by omega) (by omega) _).mono ?_; rintro e w' ⟨x, rfl, hdx, rfl⟩))
          intro v3 w4 hown hgrow _
          have H3 : Hid (Row8 (w.heap.size + 1) (w.alloc (.cells A 33)) (T2 ++ [x]) v3 w4) := (H2.out.alloc _).push hown hgrow
          clear hown hgrow H2
          have HP3 : Hid (Pre (T2 ++ [x])) := HP1.out.dig HY2.out hdx
          have HN3 : Hid ((T2 ++ [x]).length = 21 + nh 21) := by rw [List.length_append]; exact HN2.out
          go_wp2
          go_roundw
          case rel => exact ⟨21, T2 ++ [x], by omega, rfl, HN3, HP3, H3⟩
          case measure => simp [intOf]
      · have hst := nh_step hh
        have hy := nh_hyph hlt hh
        have HY : Hid (hyph T.length = false) := by show _ = _; rw [HT.out]; exact hy
        have HN : Hid (T.length + 1 = k + 1 + nh (k + 1)) := by have := HT.out; show _ = _; omega
        have f8 : ((k : Int) == 8) = false := by simp; omega
        have f12 : ((k : Int) == 12) = false := by simp; omega
        have f16 : ((k : Int) == 16) = false := by simp; omega
        have f20 : ((k : Int) == 20) = false := by simp; omega
        have hcell : wr.cell? ⟨w.heap.size, k / 2, none⟩ = some (.int .u8 (b : Int)) := HCB.out wr HK.out.2.1
        clear hst hy hh HT HCB
        by_cases hpar : k % 2 = 0
        · have tp : ((k : Int) % 2 == 0) = true := by simp; omega
          go_wp2_with (first | (at_builtin; refine wpList_append_own _ rfl (.tmp 43) (.tmp 52) 22 rfl (w.heap.size + 1) 5 i0 (.int .u8 0) 1 1 Try.underlying22 hi hz0 hz1 hz2 rfl (by decide) _ _ _ rfl (HK.out.1.alloc _) ⟨wr.heap.size, 0, none⟩ 1 1 [.int .u8 x] rfl rfl (cell_one_new _ _ _) (one_cell8 _) (by unfold maxLen; omega) (by omega) (HK.out.alloc _).2.2 ?_) | (go_at_call 32; refine (hexc32 _ _ (by omega) (by omega) _).mono ?_; rintro e w' ⟨x, rfl, hdx, rfl⟩))
          intro v3 w4 hown hgrow _
          have H3 : Hid (Row8 (w.heap.size + 1) (w.alloc (.cells A 33)) (T ++ [x]) v3 w4) := (HK.out.alloc _).push hown hgrow
          clear hown hgrow HK
          have HP3 : Hid (Pre (T ++ [x])) := HP.out.dig HY.out hdx
          have HN3 : Hid ((T ++ [x]).length = k + 1 + nh (k + 1)) := by rw [List.length_append]; exact HN.out
          go_wp2
          go_roundw
          case rel => exact ⟨k + 1, T ++ [x], by omega, by go_num, HN3, HP3, H3⟩
          case measure => simp [intOf]; omega
        · have tp : ((k : Int) % 2 == 0) = false := by simp; omega
          go_wp2_with (first | (at_builtin; refine wpList_append_own _ rfl (.tmp 43) (.tmp 52) 22 rfl (w.heap.size + 1) 5 i0 (.int .u8 0) 1 1 Try.underlying22 hi hz0 hz1 hz2 rfl (by decide) _ _ _ rfl (HK.out.1.alloc _) ⟨wr.heap.size, 0, none⟩ 1 1 [.int .u8 x] rfl rfl (cell_one_new _ _ _) (one_cell8 _) (by unfold maxLen; omega) (by omega) (HK.out.alloc _).2.2 ?_) | (go_at_call 32; refine (hexc32 _ _ (by omega) (by omega) _).mono ?_; rintro e w' ⟨x, rfl, hdx, rfl⟩))
          intro v3 w4 hown hgrow _
          have H3 : Hid (Row8 (w.heap.size + 1) (w.alloc (.cells A 33)) (T ++ [x]) v3 w4) := (HK.out.alloc _).push hown hgrow
          clear hown hgrow HK
          have HP3 : Hid (Pre (T ++ [x])) := HP.out.dig HY.out hdx
          have HN3 : Hid ((T ++ [x]).length = k + 1 + nh (k + 1)) := by rw [List.length_append]; exact HN.out
          go_wp2
          go_roundw
          case rel => exact ⟨k + 1, T ++ [x], by omega, by go_num, HN3, HP3, H3⟩
          case measure => simp [intOf]; omega
    · obtain rfl : k = 32 := by omega
      go_wp2
      go_ret
      exact ⟨_, T, rfl, HK.out, HP.out, HT.out⟩
end Go.Proofs.Qxb6000664a
