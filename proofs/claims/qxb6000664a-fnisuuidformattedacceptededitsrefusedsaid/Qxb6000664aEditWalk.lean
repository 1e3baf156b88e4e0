/-
  THE WALK OF FnIsUUIDFormattedAcceptedEditsRefused (9).
-/
import Derived.Test.Qxb6000664aFmtWalk
import Derived.Test.Qxb6000664aClone
import Derived.Laws.BytesArg
import Derived.Deep.DeepCutAuto
namespace Go.Proofs.Qxb6000664a
open Go.RowKit
set_option linter.unusedVariables false
set_option linter.unusedSimpArgs false

theorem bytesU_nums (xs : List Int) (h : ∀ x ∈ xs, 0 ≤ x ∧ x ≤ 255) : bytesU (strOfNums xs) = xs := by
  simp only [bytesU, strOfNums_data, List.map_map]
  have e : xs.map (fun n => n) = xs := List.map_id' xs
  conv => rhs; rw [← e]
  apply List.map_congr_left
  intro x hx
  have := h x hx
  simp only [Function.comp]
  have e1 : (UInt8.ofNat x.toNat).toNat = x.toNat % 256 := by simp
  rw [e1]
  omega

/-- a formatted text lies at g, whatever has happened since. -/
def St (w : World) (g : Nat) (U : List Int) (wr : World) : Prop :=
  Below w.heap.size w wr ∧ g < wr.heap.size ∧ ∀ i, i < 36 → wr.cell? ⟨g, i, none⟩ = some (.int .u8 (U.getD i 0))
theorem St.grow {w wr wr' : World} {g : Nat} {U : List Int} (h : St w g U wr) (hb : Below wr.heap.size wr wr') : St w g U wr' :=
  ⟨h.1.trans (hb.mono h.1.size), Nat.lt_of_lt_of_le h.2.1 hb.size, fun i hi => (hb.cell (p := ⟨g, i, none⟩) h.2.1).trans (h.2.2 i hi)⟩

theorem fmt22_w (A : Array Value) (bn : Nat → Nat) (m : Int) (w : World) (HA : Hid (Arr A bn)) (hm0 : 0 ≤ m) (hm1 : m ≤ 4294967295) :
    Calls Try.prog 22 #[.agg A, .int .u32 m] w fun e w' => ∃ g cap U, e = .returned (.slice (some ⟨g, 0, none⟩) 36 cap) ∧ St w g U w' ∧ Pre U ∧ U.length = 36 := by
  refine (fmt22 A bn m w HA hm0 hm1).mono ?_
  rintro e w' ⟨v, U, rfl, ⟨hown, hb, hB⟩, hp, hl⟩
  rw [hl] at hown
  rcases hown.2 with ⟨rfl, h0⟩ | ⟨g, cap, cur, rfl, hbg, hg, _⟩
  · omega
  · have hlt := hown.lt g rfl
    exact ⟨g, cap, U, rfl, ⟨((Below.refl _ _).alloc (Nat.le_refl _) _).trans (hb.mono (by omega)), hlt.2, fun i hi => own_cell hown i hi⟩, hp, hl⟩

theorem isu23v (s : ByteArray) (b : Bool) (hs : s.size ≤ 9223372036854775807) (hb : uuidB (bytesU s) = b) (w : World) : Calls Try.prog 23 #[.string s] w fun e w' => e = .returned (.bool b) ∧ w = w' := by
  subst hb; exact isu23 s hs w

/-! one byte that is wrong where it stands -/
theorem from_at : ∀ (l : List Int) (i j : Nat), uuidFrom i l = true → j < l.length → uuidAt (i + j) (l[j]?.getD 0) = true
  | [], i, j, h, hj => by simp at hj
  | c :: l, i, 0, h, hj => by
    rw [uuidFrom, Bool.and_eq_true] at h
    simpa using h.1
  | c :: l, i, j + 1, h, hj => by
    rw [uuidFrom, Bool.and_eq_true] at h
    have h' := from_at l (i + 1) j h.2 (by simpa using hj)
    have e : i + 1 + j = i + (j + 1) := by omega
    rw [e] at h'
    simpa using h'
theorem uuid_set {U : List Int} {p : Nat} {y : Int} (hp : p < U.length) (hy : uuidAt p y = false) : uuidB (U.set p y) = false := by
  by_cases h : uuidFrom 0 (U.set p y) = true
  · have h' := from_at (U.set p y) 0 p h (by simpa using hp)
    rw [Nat.zero_add] at h'
    have e : (U.set p y)[p]?.getD 0 = y := by simp [hp]
    rw [e, hy] at h'
    cases h'
  · have h' : uuidFrom 0 (U.set p y) = false := by simpa using h
    simp [uuidB, h']
theorem at_bad {y : Int} (h : hexB y = false ∧ ¬ y = 45) (p : Nat) : uuidAt p y = false := by
  unfold uuidAt
  by_cases hh : hyph p = true
  · rw [if_pos hh]; simpa using h.2
  · rw [if_neg hh]; exact h.1
theorem set_bd {U : List Int} (h : ∀ x ∈ U, 0 ≤ x ∧ x ≤ 255) (p : Nat) {y : Int} (h0 : 0 ≤ y) (h1 : y ≤ 255) : ∀ x ∈ U.set p y, 0 ≤ x ∧ x ≤ 255 := by
  intro x hx
  rcases List.mem_or_eq_of_mem_set hx with hx | rfl
  · exact h x hx
  · exact ⟨h0, h1⟩

/-- a clone with one byte turned: what is known of it. -/
def Turned (w wr : World) (g : Nat) (U : List Int) (b : Nat) (l : List Int) : Prop :=
  St w g U wr ∧ l.length = 36 ∧ (∀ i, i < 36 → wr.cell? ⟨b, i, none⟩ = some (.int .u8 (l.getD i 0))) ∧ uuidB (bytesU (strOfNums l)) = false
theorem turned {w wr w3 : World} {g p : Nat} {U : List Int} {y : Int} (hst : St w g U wr) (hpre : Pre U) (hul : U.length = 36) (hcl : Cloned wr U 36 w3) (hp : p < 36) (h0 : 0 ≤ y) (h1 : y ≤ 255) (hy : uuidAt p y = false) :
    Turned w (w3.setCell ⟨wr.heap.size, p, none⟩ (.int .u8 y)) g U wr.heap.size (U.set p y) := by
  have hs := (hcl.1.stored p (.int .u8 y)).1
  rw [cells8_set] at hs
  refine ⟨hst.grow (hcl.2.setCell (Nat.le_refl _) _), by simp [hul], fun i hi => own_cell hs i hi, ?_⟩
  rw [bytesU_nums _ (set_bd hpre.2 p h0 h1)]
  exact uuid_set (by omega) hy
theorem Turned.conv {w wr : World} {g b : Nat} {U l : List Int} (h : Turned w wr g U b l) (cap : Nat) : (convert 22 9 (.slice (some ⟨b, 0, none⟩) 36 cap)).run Try.prog wr = .ok (.string (strOfNums l)) wr :=
  run_convert_bytes_arg (P := Try.prog) wr 22 5 Try.underlying22 Try.underlying5 b 0 36 cap l h.2.1 (fun i hi => by rw [Nat.zero_add]; exact h.2.2.1 i hi) 9 Try.underlying9
theorem Turned.size {w wr : World} {g b : Nat} {U l : List Int} (h : Turned w wr g U b l) : (strOfNums l).size ≤ 9223372036854775807 := by rw [strOfNums_size, h.2.1]; omega

/-- a buffer of n bytes that is being filled, made in the world wc. -/
def Buf (wc : World) (n : Nat) (wr : World) : Prop :=
  Below wc.heap.size wc wr ∧ ∃ l : List Int, wr.ownsRow wc.heap.size 5 1 (.slice (some ⟨wc.heap.size, 0, none⟩) n n) n (cells8 l)
theorem Buf.set {wc wr : World} {n : Nat} (h : Buf wc n wr) (j : Nat) (c : Int) : Buf wc n (wr.setCell ⟨wc.heap.size, j, none⟩ (.int .u8 c)) := by
  obtain ⟨hb, l, hown⟩ := h
  refine ⟨hb.setCell (Nat.le_refl _) _, l.set j c, ?_⟩
  have h' := (hown.stored j (.int .u8 c)).1
  rw [cells8_set] at h'
  exact h'
theorem Buf.cell {wc wr : World} {n : Nat} (h : Buf wc n wr) (j : Nat) (hj : j < n) : ∃ c, wr.cell? ⟨wc.heap.size, j, none⟩ = some (.int .u8 c) := by
  obtain ⟨hb, l, hown⟩ := h
  exact ⟨_, own_cell hown j hj⟩
theorem Buf.free {wc wr : World} {n : Nat} (h : Buf wc n wr) (j : Nat) : wr.frozen? ⟨wc.heap.size, j, none⟩ = false := by
  obtain ⟨hb, l, hown⟩ := h
  exact hown.frozenAt j
theorem Buf.conv {wc wr : World} {n : Nat} (h : Buf wc n wr) (hn : n ≤ 100) (h36 : ¬ n = 36) :
    ∃ S : ByteArray, (convert 22 9 (.slice (some ⟨wc.heap.size, 0, none⟩) n n)).run Try.prog wr = .ok (.string S) wr ∧ S.size ≤ 9223372036854775807 ∧ uuidB (bytesU S) = false := by
  obtain ⟨hb, l, hown⟩ := h
  have hl := own_len hown
  refine ⟨strOfNums l, run_convert_bytes_arg (P := Try.prog) wr 22 5 Try.underlying22 Try.underlying5 wc.heap.size 0 n n l hl (fun i hi => by rw [Nat.zero_add]; exact own_cell hown i hi) 9 Try.underlying9, ?_, ?_⟩
  · rw [strOfNums_size, hl]; omega
  · simp [uuidB, bytesU_length, strOfNums_size, hl, h36]
theorem Buf.st {w wc wr : World} {n g : Nat} {U : List Int} (h : Buf wc n wr) (hs : St w g U wc) : St w g U wr := hs.grow h.1
theorem buf_made {wc w5 : World} {n : Nat} (hown : w5.ownsRow wc.heap.size 5 1 (.slice (some ⟨wc.heap.size, 0, none⟩) n n) n (madeCells #[Value.int .u8 0] n).toList) (hg : wc.grownBy w5 none) : Buf wc n w5 := by
  rw [made8'] at hown
  exact ⟨(Below.refl _ _).grown hg (Nat.le_refl _) (by intro k hk; cases hk), _, hown⟩

theorem hex24v (c x : Int) (h0 : 0 ≤ c) (h1 : c ≤ 255) (hx : hexV c = x) (w : World) : Calls Try.prog 24 #[.int .u8 c] w fun e w' => e = .returned (.int .i64 x) ∧ w = w' := by
  subst hx
  exact (hex24 c h0 h1 w).mono fun e w' ⟨he, hw⟩ => ⟨he, hw.symm⟩

set_option maxRecDepth 20000 in
set_option maxHeartbeats 4000000 in
theorem edit9 (A : Array Value) (bn : Nat → Nat) (m x d c : Int) (pn qn : Nat) (w : World) (HA : Hid (Arr A bn)) (hm0 : 0 ≤ m) (hm1 : m ≤ 4294967295)
    (hp : pn ≤ 255) (hq : qn ≤ 255) (hx0 : 0 ≤ x) (hx1 : x ≤ 255) (hd0 : 0 ≤ d) (hd1 : d ≤ 255) (hc0 : 0 ≤ c) (hc1 : c ≤ 255) :
    Calls Try.prog 9 #[.agg A, .int .u32 m, .int .u8 pn, .int .u8 x, .int .u8 d, .int .u8 qn, .int .u8 c] w fun e w' => e = .returned (.bool true) ∧ Below w.heap.size w w' := by
  have hsz : A.size = 16 := HA.out.1
  have HSZ : Hid ((Try.prog.info? 33).map (·.size) = some A.size) := by
    show _ = _; rw [hsz]; kernel_rfl
  have HW1 : Hid ((w.alloc (.cells A 33)).heap[w.heap.size]? = some (.cells A 33 (0, 0))) := heap_alloc_new w _
  clear hsz
  go_enter Try.func9, Try.ntmps9
  go_wp2_with (first | (go_at_call 22; refine (fmt22_w A bn m _ HA hm0 hm1).mono ?_) | (refine wpList_load_row rfl 33 (.tmp 7) rfl w.heap.size rfl 33 A (0, 0) _ HW1.out Try.underlying33 rfl HSZ.out ?_))
  rintro e w2 ⟨g, cp, U, rfl, hst, hpre, hul⟩
  have HST : Hid (St w g U w2) := ⟨((Below.refl _ _).alloc (Nat.le_refl _) _).trans (hst.1.mono (by simp)), hst.2.1, hst.2.2⟩
  have HPRE : Hid (Pre U) := hpre
  have HUL : Hid (U.length = 36) := hul
  have HS1 : Hid ((strOfNums U).size ≤ 9223372036854775807 ∧ uuidB (bytesU (strOfNums U)) = true) := by
    refine ⟨by rw [strOfNums_size, hul]; omega, ?_⟩
    rw [bytesU_nums U hpre.2, uuidB, hul, hpre.1]; rfl
  have hcv := fun (wx : World) (hx : St w g U wx) => run_convert_bytes_arg (P := Try.prog) wx 22 5 Try.underlying22 Try.underlying5 g 0 36 cp U hul (fun i hi => by rw [Nat.zero_add]; exact hx.2.2 i hi) 9 Try.underlying9
  have hcv1 := hcv w2 HST.out
  clear hst hpre hul HW1 HSZ hcv
  obtain ⟨p, hpe⟩ : ∃ p : Nat, (pn : Int) % 36 = (p : Int) := ⟨pn % 36, by omega⟩
  have hp36 : p < 36 := by omega
  obtain ⟨q, hqe⟩ : ∃ q : Nat, (qn : Int) % 37 = (q : Int) := ⟨qn % 37, by omega⟩
  have hq37 : q < 37 := by omega
  obtain ⟨S1, hS1⟩ : ∃ S, S = strOfNums U := ⟨_, rfl⟩
  rw [← hS1] at hcv1 HS1
  clear hS1
  go_upto_region 6 with (first | (go_at_call 23; refine (isu23v S1 true HS1.out.1 HS1.out.2 _).mono ?_; rintro e w' ⟨rfl, rfl⟩))
  rw [hpe]
  clear hpe hcv1 HS1
  obtain ⟨hv, hhv⟩ : ∃ v, hexV x = v := ⟨_, rfl⟩
  obtain ⟨B, hB⟩ : ∃ B, B = (decide (0 ≤ hv) || (x == 45)) := ⟨_, rfl⟩
  have HV : Hid (hexV x = hv) := hhv
  have HBB : Hid (B = (decide (0 ≤ hv) || (x == 45))) := hB
  clear hhv hB
  go_cut [44] (fun s44 wx => s44 = .bool B ∧ w2 = wx)
  case first =>
    by_cases h1 : 0 ≤ hv
    · go_wp2_with (go_at_call 24; refine (hex24v x hv (by omega) (by omega) HV.out _).mono ?_; rintro e w' ⟨rfl, rfl⟩)
      go_meet
      case rel => exact ⟨by rw [HBB.out]; simp [h1], rfl⟩
    · go_wp2_with (go_at_call 24; refine (hex24v x hv (by omega) (by omega) HV.out _).mono ?_; rintro e w' ⟨rfl, rfl⟩)
      go_meet
      case rel => exact ⟨by rw [HBB.out], rfl⟩
  case rest =>
    obtain ⟨rfl, rfl⟩ := hcut
    go_upto_if 44 with fail
    go_cut [17] (fun s17 wx => ∃ y, s17 = .int .u8 y ∧ Hid (hexB y = false ∧ ¬ y = 45) ∧ 0 ≤ y ∧ y ≤ 255 ∧ w2 = wx)
    case first =>
      cases B with
      | true =>
        go_wp2
        go_meet
        case rel => exact ⟨103, rfl, ⟨by decide, by decide⟩, by omega, by omega, rfl⟩
      | false =>
        have HY : Hid (hexB x = false ∧ ¬ x = 45) := by
          have h := HBB.out
          simp only [Bool.false_eq, Bool.or_eq_false_iff, decide_eq_false_iff_not, beq_eq_false_iff_ne] at h
          exact ⟨by unfold hexB; rw [HV.out]; simpa using h.1, h.2⟩
        go_wp2
        go_meet
        case rel => exact ⟨x, rfl, HY, by omega, by omega, rfl⟩
    case rest =>
      obtain ⟨y, rfl, HY, hy0, hy1, rfl⟩ := hcut
      clear HBB HV
      go_wp2_with fail
      refine (clone_some g 0 36 cp U _ HUL.out (by omega) (fun i hi => by rw [Nat.zero_add]; exact HST.out.2.2 i hi)).mono ?_
      rintro e w3 ⟨rfl, hcl⟩
      have c0 := own_cell hcl.1 p hp36
      have f0 := hcl.1.frozenAt p
      have HT : Hid (Turned w (w3.setCell ⟨w2.heap.size, p, none⟩ (.int .u8 y)) g U w2.heap.size (U.set p y)) := turned HST.out HPRE.out HUL.out hcl hp36 hy0 hy1 (at_bad HY.out p)
      have hcv2 := HT.out.conv 36
      clear hcl HST HY
      generalize U.getD p 0 = y' at c0
      go_wp2_with (go_at_call 23; refine (isu23v _ false HT.out.size HT.out.2.2.2 _).mono ?_; rintro e w' ⟨rfl, rfl⟩)
      have HST : Hid (St w g U (w3.setCell ⟨w2.heap.size, p, none⟩ (.int .u8 y))) := HT.out.1
      clear hcv2 HT c0 f0
      generalize w3.setCell ⟨w2.heap.size, p, none⟩ (.int .u8 y) = wA at HST ⊢
      refine (clone_some g 0 36 cp U _ HUL.out (by omega) (fun i hi => by rw [Nat.zero_add]; exact HST.out.2.2 i hi)).mono ?_
      rintro e w4 ⟨rfl, hcl⟩
      have c0 := own_cell hcl.1 p hp36
      have f0 := hcl.1.frozenAt p
      have HCL : Hid (Cloned wA U 36 w4) := hcl
      clear hcl
      generalize U.getD p 0 = y2 at c0
      obtain ⟨hb, hhb⟩ : ∃ b, b = hyph p := ⟨_, rfl⟩
      have HHB : Hid (hb = hyph p) := hhb
      clear hhb
      go_upto_region 13 with fail
      go_cut [69] (fun s69 wx => s69 = .bool hb ∧ w4 = wx)
      case first =>
        by_cases t8 : ((p : Int) == 8) = true
        · have e : hb = true := by rw [HHB.out]; simp at t8; simp [hyph]; omega
          subst e
          go_wp2
          go_meet
          case rel => exact ⟨rfl, rfl⟩
        have f8 : ((p : Int) == 8) = false := by simpa using t8
        clear t8
        by_cases t13 : ((p : Int) == 13) = true
        · have e : hb = true := by rw [HHB.out]; simp at t13; simp [hyph]; omega
          subst e
          go_wp2
          go_meet
          case rel => exact ⟨rfl, rfl⟩
        have f13 : ((p : Int) == 13) = false := by simpa using t13
        clear t13
        by_cases t18 : ((p : Int) == 18) = true
        · have e : hb = true := by rw [HHB.out]; simp at t18; simp [hyph]; omega
          subst e
          go_wp2
          go_meet
          case rel => exact ⟨rfl, rfl⟩
        have f18 : ((p : Int) == 18) = false := by simpa using t18
        clear t18
        by_cases t23 : ((p : Int) == 23) = true
        · have e : hb = true := by rw [HHB.out]; simp at t23; simp [hyph]; omega
          subst e
          go_wp2
          go_meet
          case rel => exact ⟨rfl, rfl⟩
        have f23 : ((p : Int) == 23) = false := by simpa using t23
        clear t23
        have e : hb = false := by rw [HHB.out]; simp at f8 f13 f18 f23; simp [hyph]; omega
        subst e
        go_wp2
        go_meet
        case rel => exact ⟨rfl, rfl⟩
      case rest =>
        obtain ⟨rfl, rfl⟩ := hcut
        go_upto_if 69 with fail
        go_cut [] (fun wx => Hid (∃ l, Turned w wx g U wA.heap.size l))
        case first =>
          cases hb with
          | true =>
            have HT : Hid (Turned w (w4.setCell ⟨wA.heap.size, p, none⟩ (.int .u8 (48 + d % 10))) g U wA.heap.size (U.set p (48 + d % 10))) :=
              turned HST.out HPRE.out HUL.out HCL.out hp36 (by omega) (by omega) (by unfold uuidAt; rw [← HHB.out]; simp; omega)
            go_wp2
            go_meet
            case rel => exact ⟨_, HT.out⟩
          | false =>
            have HT : Hid (Turned w (w4.setCell ⟨wA.heap.size, p, none⟩ (.int .u8 45)) g U wA.heap.size (U.set p 45)) :=
              turned HST.out HPRE.out HUL.out HCL.out hp36 (by omega) (by omega) (by unfold uuidAt; rw [← HHB.out]; simp [hexB_hyph])
            go_wp2
            go_meet
            case rel => exact ⟨_, HT.out⟩
        case rest =>
          obtain ⟨l2, ht2⟩ := hcut
          have hcv3 := ht2.conv 36
          have HT2 : Hid (Turned w wc g U wA.heap.size l2) := ht2
          have HS2 : Hid (St w g U wc) := ht2.1
          clear ht2 HST HCL HHB c0 f0
          obtain ⟨i0, hi, hz0, hz1, hz2⟩ := info_parts info5
          go_wp2_with (first | (go_at_call 23; refine (isu23v _ false HT2.out.size HT2.out.2.2.2 _).mono ?_; rintro e w' ⟨rfl, rfl⟩) | (at_make; refine wpList_make_full _ rfl _ _ 22 rfl wc.heap.size 5 i0 (.int .u8 0) 1 Try.underlying22 hi hz0 hz1 _ _ _ _ 35 rfl rfl rfl rfl ?_ ?_ (Nat.le_refl _) ?_))
          · rw [hz2]; omega
          · unfold maxLen; omega
          intro w5 hown hgrow
          have HBF : Hid (Buf wc 35 w5) := buf_made hown hgrow
          clear hown hgrow hcv3 HT2
          go_wp2
          go_loopw [21] (fun kv wr => ∃ k : Nat, k ≤ p ∧ kv = .int .i64 k ∧ Hid (Buf wc 35 wr)) (fun kv _ => p - (intOf kv).toNat)
          case atStart => exact ⟨0, Nat.zero_le _, rfl, HBF⟩
          case round =>
            obtain ⟨k, hk, rfl, HK⟩ := hrel
            clear HBF
            by_cases hlt : k < p
            · have c1 := (HK.out.st HS2.out).2.2 k (by omega)
              obtain ⟨z, c2⟩ := HK.out.cell k (by omega)
              have f2 := HK.out.free k
              generalize U.getD k 0 = u at c1
              have HN : Hid (Buf wc 35 (wr.setCell ⟨wc.heap.size, k, none⟩ (.int .u8 u))) := HK.out.set k u
              clear HK
              go_wp2
              go_roundw
              case rel => exact ⟨k + 1, by omega, by go_num, HN⟩
              case measure => simp [intOf]; omega
            · obtain ⟨wo, rfl⟩ : ∃ wo : World, wo = wr := ⟨_, rfl⟩
              go_wp2
              go_loopw [22] (fun kv wr => ∃ k : Nat, p + 1 ≤ k ∧ k ≤ 36 ∧ kv = .int .i64 k ∧ Hid (Buf wc 35 wr)) (fun kv _ => 36 - (intOf kv).toNat)
              case atStart => exact ⟨p + 1, by omega, by omega, by go_num, HK⟩
              case round =>
                obtain ⟨k2, hk2, hk3, rfl, HK2⟩ := hrel
                clear HK
                by_cases hlt2 : k2 < 36
                · have c1 := (HK2.out.st HS2.out).2.2 k2 (by omega)
                  obtain ⟨z, c2⟩ := HK2.out.cell (k2 - 1) (by omega)
                  have f2 := HK2.out.free (k2 - 1)
                  generalize U.getD k2 0 = u at c1
                  have HN : Hid (Buf wc 35 (wr.setCell ⟨wc.heap.size, k2 - 1, none⟩ (.int .u8 u))) := HK2.out.set (k2 - 1) u
                  clear HK2
                  go_wp2
                  go_roundw
                  case rel => exact ⟨k2 + 1, by omega, by omega, by go_num, HN⟩
                  case measure => simp [intOf]; omega
                · obtain ⟨S3, hcv4, hs3, hu3⟩ := HK2.out.conv (by omega) (by omega)
                  have HS3 : Hid (S3.size ≤ 9223372036854775807 ∧ uuidB (bytesU S3) = false) := ⟨hs3, hu3⟩
                  have HST3 : Hid (St w g U wr) := HK2.out.st HS2.out
                  clear hs3 hu3 HK2 HS2
                  obtain ⟨wB, rfl⟩ : ∃ wB : World, wB = wr := ⟨_, rfl⟩
                  go_wp2_with (first | (go_at_call 23; refine (isu23v _ false HS3.out.1 HS3.out.2 _).mono ?_; rintro e w' ⟨rfl, rfl⟩) | (at_make; refine wpList_make_full _ rfl _ _ 22 rfl wB.heap.size 5 i0 (.int .u8 0) 1 Try.underlying22 hi hz0 hz1 _ _ _ _ 37 rfl rfl rfl rfl ?_ ?_ (Nat.le_refl _) ?_))
                  · rw [hz2]; omega
                  · unfold maxLen; omega
                  intro w6 hown hgrow
                  have HBF : Hid (Buf wB 37 w6) := buf_made hown hgrow
                  clear hown hgrow hcv4 HS3
                  clear hqe
                  go_wp2
                  go_loopw [25] (fun kv wr => ∃ k : Nat, k ≤ q ∧ kv = .int .i64 k ∧ Hid (Buf wB 37 wr)) (fun kv _ => q - (intOf kv).toNat)
                  case atStart => exact ⟨0, Nat.zero_le _, rfl, HBF⟩
                  case round =>
                    obtain ⟨k3, hk4, rfl, HK3⟩ := hrel
                    clear HBF
                    by_cases hlt3 : k3 < q
                    · have c1 := (HK3.out.st HST3.out).2.2 k3 (by omega)
                      obtain ⟨z, c2⟩ := HK3.out.cell k3 (by omega)
                      have f2 := HK3.out.free k3
                      generalize U.getD k3 0 = u at c1
                      have HN : Hid (Buf wB 37 (wr.setCell ⟨wB.heap.size, k3, none⟩ (.int .u8 u))) := HK3.out.set k3 u
                      clear HK3
                      go_wp2
                      go_roundw
                      case rel => exact ⟨k3 + 1, by omega, by go_num, HN⟩
                      case measure => simp [intOf]; omega
                    · obtain ⟨wD, rfl⟩ : ∃ wD : World, wD = wr := ⟨_, rfl⟩
                      obtain ⟨z, c2⟩ := HK3.out.cell q (by omega)
                      have f2 := HK3.out.free q
                      have HN : Hid (Buf wB 37 (wD.setCell ⟨wB.heap.size, q, none⟩ (.int .u8 c))) := HK3.out.set q c
                      clear HK3
                      go_wp2
                      go_loopw [26] (fun kv wr => ∃ k : Nat, q ≤ k ∧ k ≤ 36 ∧ kv = .int .i64 k ∧ Hid (Buf wB 37 wr)) (fun kv _ => 36 - (intOf kv).toNat)
                      case atStart => exact ⟨q, by omega, by omega, rfl, HN⟩
                      case round =>
                        obtain ⟨k5, hk5, hk6, rfl, HK5⟩ := hrel
                        clear HN c2 f2
                        by_cases hlt5 : k5 < 36
                        · have c1 := (HK5.out.st HST3.out).2.2 k5 (by omega)
                          obtain ⟨z, c2⟩ := HK5.out.cell (k5 + 1) (by omega)
                          have f2 := HK5.out.free (k5 + 1)
                          generalize U.getD k5 0 = u at c1
                          have HN : Hid (Buf wB 37 (wr.setCell ⟨wB.heap.size, k5 + 1, none⟩ (.int .u8 u))) := HK5.out.set (k5 + 1) u
                          clear HK5
                          go_wp2
                          go_roundw
                          case rel => exact ⟨k5 + 1, by omega, by omega, by go_num, HN⟩
                          case measure => simp [intOf]; omega
                        · obtain ⟨S4, hcv5, hs4, hu4⟩ := HK5.out.conv (by omega) (by omega)
                          have HS4 : Hid (S4.size ≤ 9223372036854775807 ∧ uuidB (bytesU S4) = false) := ⟨hs4, hu4⟩
                          have HE : Hid (Below w.heap.size w wr) := (HK5.out.st HST3.out).1
                          clear hs4 hu4 HK5 HST3
                          go_wp2_with (go_at_call 23; refine (isu23v _ false HS4.out.1 HS4.out.2 _).mono ?_; rintro e w' ⟨rfl, rfl⟩)
                          go_ret
                          exact ⟨rfl, HE.out⟩
end Go.Proofs.Qxb6000664a
