/-
  THE WALK OF appendString (30) AND OF ITS DOOR (14).
-/
import Derived.Test.Qxb6000664aMem
import Derived.Test.Qxb6000664aEsc
import Derived.Deep.RegionLaw
namespace Go.Proofs.Qxb6000664a
open Go.RowKit
set_option linter.unusedVariables false
set_option linter.unusedSimpArgs false

/-- a string's bytes as numbers. -/
def bytesI (s : ByteArray) : List Int := s.data.toList.map fun b => (b.toNat : Int)

theorem bytesI_length (s : ByteArray) : (bytesI s).length = s.size := by simp [bytesI]
theorem bytesI_at (s : ByteArray) (k : Nat) (h : k < s.size) : (bytesI s)[k]?.getD 0 = (s[k].toNat : Int) := by
  have h' : k < s.data.size := h
  have e : s[k] = s.data[k] := rfl
  rw [e, bytesI, List.getElem?_map, Array.getElem?_toList, Array.getElem?_eq_getElem h']
  rfl
theorem bytesI_bd (s : ByteArray) : ∀ c ∈ bytesI s, 0 ≤ c ∧ c ≤ 255 := by
  intro c hc
  simp only [bytesI, List.mem_map] at hc
  obtain ⟨b, _, rfl⟩ := hc
  have := UInt8.toNat_lt b
  omega
theorem strCells_eq (s : ByteArray) : Lib.strCells s = cells8 (bytesI s) := by simp [Lib.strCells, bytesI, cells8]
theorem bytesI_extract (s : ByteArray) (p k : Nat) : bytesI (s.extract p k) = ((bytesI s).drop p).take (k - p) := by
  simp [bytesI, ByteArray.data_extract, List.map_drop, List.map_take, List.extract_eq_take_drop]

/-- append onto a row of the call's own, as one step of a region that draws. -/
theorem step_append_own {P : Program} {ops : Array Oper} {o : Oper} {a : Act} {w : World} {K : Act → World → Prop} {Q : Exit → Act → World → Prop} {E : Prop}
    (hg : o.guard = none) (s x : Operand) (t : TypeId) (hop : o.op = Op.call { callee := Callee.builtin Builtin.append, args := #[s, x], argTypes := #[t, t] })
    (base : Nat) (e : TypeId) (i : TypeInfo) (z : Value) (size bytes : Nat) (h1 : P.underlying t = some (.slice e)) (h2 : P.info? e = some i) (h3 : i.zero = some z) (h4 : i.size = size) (h5 : i.bytes = bytes) (h6 : z.cells.size = size) (h7 : 0 < size)
    (v : Value) (n : Nat) (xs : List Value) (hs : a.eval s = v) (hown : w.ownsRow base e size v n xs)
    (ad : Addr) (m c : Nat) (news : List Value) (hx : a.eval x = .slice (some ad) m c) (hn : news.length = m * size) (hc : ∀ j u, news[j]? = some u → w.cell? (ad.add j) = some u) (h1c : ∀ u ∈ news, u.oneCell' = true)
    (b1 : n + m ≤ maxLen) (b2 : (n + m) * bytes ≤ 140737488355328) (hbase : base ≤ w.heap.size)
    (hK : ∀ v' w', w'.ownsRow base e size v' (n + m) (xs ++ news) → w.grownBy w' v.ownBlock → K (a.put o.dst v') w') :
    if Region.wanted o (yielded ops a.tmps) = true then Oper.wp P o a w K Q else E := by
  have hw : Region.wanted o (yielded ops a.tmps) = true := by simp [Region.wanted, hg]
  rw [if_pos hw]
  obtain ⟨v', w', hrun, r1, r2, _⟩ := run_append_own (P := P) w base t o.type e i z size bytes h1 h2 h3 h4 h5 h6 h7 v n xs hown ad m c news hn hc h1c b1 b2 hbase
  unfold Oper.wp
  simp [execOp, hop, resolve, invoke, builtin, hs, hx, hrun, Result.andThen]
  exact hK v' w' r1 r2

theorem ownsRow_lower {w : World} {base base' : Nat} {e : TypeId} {size : Nat} {v : Value} {n : Nat} {xs : List Value} (h : w.ownsRow base e size v n xs) (hb : base' ≤ base) : w.ownsRow base' e size v n xs := by
  obtain ⟨h1, h2⟩ := h
  refine ⟨h1, ?_⟩
  rcases h2 with h2 | ⟨g, cap, cur, r1, r2, r3⟩
  · exact .inl h2
  · exact .inr ⟨g, cap, cur, r1, Nat.le_trans hb r2, r3⟩

/-- what is written by now, in block numbers from B on, and nothing below B has turned. -/
def Has (B : Nat) (w0 : World) (l : List Int) (v : Value) (w : World) : Prop := w.ownsRow B 5 1 v l.length (cells8 l) ∧ Below B w0 w ∧ B ≤ w.heap.size

theorem Has.grown {B : Nat} {w0 w w1 : World} {l l' : List Int} {v v' : Value} (h : Has B w0 l v w) (n : Nat) (hn : n = l'.length) (hown : w1.ownsRow B 5 1 v' n (cells8 l')) (hg : w.grownBy w1 v.ownBlock) : Has B w0 l' v' w1 :=
  ⟨by rw [← hn]; exact hown, h.2.1.grown hg h.2.2 (fun k hk => (h.1.lt k hk).1), Nat.le_trans h.2.2 hg.size⟩
theorem Has.alloc {B : Nat} {w0 w : World} {l : List Int} {v : Value} (h : Has B w0 l v w) (o : Obj) : Has B w0 l v (w.alloc o) :=
  ⟨h.1.alloc o, h.2.1.alloc h.2.2 o, by have := h.2.2; simp; omega⟩
theorem Has.drew {B : Nat} {w0 w : World} {l : List Int} {v : Value} (h : Has B w0 l v w) : Has B w0 l v w.drew := ⟨h.1.drew, h.2.1.drew, h.2.2⟩

/-- one append more. -/
theorem Has.more {B : Nat} {w0 w w2 : World} {L news : List Int} {v v2 : Value} {m : Nat} {cs : List Value} (h : Has B w0 L v w) (hcs : cs = cells8 news) (hm : m = news.length) (hown : w2.ownsRow B 5 1 v2 (L.length + m) (cells8 L ++ cs)) (hg : w.grownBy w2 v.ownBlock) :
    Has B w0 (L ++ news) v2 w2 := by
  subst hcs hm
  refine h.grown (L.length + news.length) (by simp) ?_ hg
  have e : cells8 (L ++ news) = cells8 L ++ cells8 news := by simp [cells8]
  rw [e]
  exact hown
theorem seg_cells (s : ByteArray) (p k : Nat) : Lib.strCells (s.extract p k) = cells8 (((bytesI s).drop p).take (k - p)) := by rw [strCells_eq, bytesI_extract]
theorem seg_size (s : ByteArray) (p k : Nat) (hk : k ≤ s.size) : k - p = (((bytesI s).drop p).take (k - p)).length := by
  have := bytesI_length s
  simp; omega

abbrev hexText : ByteArray := { data := #[48, 49, 50, 51, 52, 53, 54, 55, 56, 57, 97, 98, 99, 100, 101, 102] }
theorem hex_at (t : Int) (h0 : 0 ≤ t) (h1 : t < 16) (h : t.toNat < hexText.size) : ((hexText[t.toNat]'h).toNat : Int) = Esc.hexD t := by
  obtain ⟨m, rfl⟩ : ∃ m : Nat, t = m := ⟨t.toNat, by omega⟩
  have : m = 0 ∨ m = 1 ∨ m = 2 ∨ m = 3 ∨ m = 4 ∨ m = 5 ∨ m = 6 ∨ m = 7 ∨ m = 8 ∨ m = 9 ∨ m = 10 ∨ m = 11 ∨ m = 12 ∨ m = 13 ∨ m = 14 ∨ m = 15 := by omega
  rcases this with rfl | rfl | rfl | rfl | rfl | rfl | rfl | rfl | rfl | rfl | rfl | rfl | rfl | rfl | rfl | rfl <;> rfl
theorem and15 (c : Nat) (h : c < 32) : bits BinOp.and IntKind.u8 (c : Int) 15 = (c : Int) % 16 := by
  have all : ∀ c : Fin 32, bits BinOp.and IntKind.u8 ((c.val : Nat) : Int) 15 = ((c.val : Nat) : Int) % 16 := by decide
  exact all ⟨c, h⟩

set_option maxHeartbeats 2000000 in
theorem app30 (ao : Option Addr) (n : Nat) (xs : List Int) (s : ByteArray) (w : World) (hn : xs.length = n) (hnl : n ≤ 2000000) (hs : s.size ≤ 200000)
    (hnone : ao = none → n = 0) (hcells : ∀ b, ao = some b → ∀ j u, (cells8 xs)[j]? = some u → w.cell? (b.add j) = some u) :
    Calls Try.prog 30 #[.slice ao n n, .string s] w fun e w' => ∃ v', e = .returned v' ∧ Has w.heap.size w (xs ++ Esc.quo (bytesI s)) v' w' := by
  obtain ⟨i0, hi, hz0, hz1, hz2⟩ := info_parts info5
  have HN : Hid (xs.length = n) := hn
  clear hn
  go_enter Try.func30, Try.ntmps30
  go_wp2_with (at_builtin; refine wpList_append_grows _ rfl (.tmp 8) (.tmp 9) 22 rfl 5 i0 (.int .u8 0) 1 1 Try.underlying22 hi hz0 hz1 hz2 rfl (by decide) ao n n (cells8 xs) rfl ?a1 ?a2 ?a3 ⟨w.heap.size, 0, none⟩ 1 1 [.int .u8 34] rfl rfl ?a4 ?a5 ?a6 ?a7 ?a8 ?a9)
  case a1 => exact fun h => ⟨hnone h, hnone h⟩
  case a2 => have := HN.out; simp; omega
  case a3 => exact fun b hb j u hu => (World.cell?_alloc_lt _ _ _ (World.block_lt_of_cell? w _ (hcells b hb j u hu))).trans (hcells b hb j u hu)
  case a4 =>
    intro j u hj
    match j, hj with
    | 0, hj => simp at hj; subst hj; simp [Addr.add]
  case a5 => intro u hu; simp at hu; subst hu; rfl
  case a6 => omega
  case a7 => unfold maxLen; omega
  case a8 => omega
  case a9 =>
  intro v1 w1 hown hgrow
  have HH : Hid (Has w.heap.size w (xs ++ [34]) v1 w1) := by
    refine ⟨?_, ((Below.refl _ _).alloc (Nat.le_refl _) _).grown hgrow (by simp) (by intro k hk; cases hk), by have := hgrow.size; simp at this; omega⟩
    have e : cells8 xs ++ [Value.int IntKind.u8 34] = cells8 (xs ++ [34]) := by simp [cells8]
    rw [e] at hown
    have e2 : (xs ++ [34]).length = n + 1 := by have := HN.out; simp; omega
    rw [e2]
    exact ownsRow_lower hown (by omega)
  clear hown hgrow hcells hnone
  have hbl : (bytesI s).length = s.size := bytesI_length s
  have HBL : Hid ((bytesI s).length = s.size) := hbl
  clear hbl
  go_wp2
  go_loopw [0, 5, 6] (fun v pv kv wr => ∃ (k p : Nat) (L : List Int), k ≤ s.size ∧ p ≤ k ∧ pv = .int .i64 p ∧ kv = .int .i64 k ∧ Hid (L ++ ((bytesI s).drop p).take (k - p) = (xs ++ [34]) ++ Esc.escs ((bytesI s).take k)) ∧ Hid (Has w.heap.size w L v wr)) (fun _ _ kv _ => s.size - (intOf kv).toNat)
  case atStart => exact ⟨0, 0, xs ++ [34], by omega, by omega, rfl, rfl, by show _ = _; simp [Esc.escs], HH⟩
  case round =>
    obtain ⟨k, p, L, hk, hp, rfl, rfl, HR, HA⟩ := hrel
    clear HH
    have HLn := Esc.rel_len HR.out (by rw [HBL.out]; omega)
    rw [← seg_size s p k hk] at HLn
    have hLn : L.length + (k - p) ≤ 3300000 := by
      have e1 : (xs ++ [34]).length = n + 1 := by have := HN.out; simp; omega
      omega
    clear HLn
    by_cases hlt : k < s.size
    · have hkb : k < (bytesI s).length := by rw [HBL.out]; exact hlt
      have HAT := bytesI_at s k hlt
      have hbd := UInt8.toNat_lt s[k]
      by_cases hpl : 32 ≤ (s[k].toNat : Int) ∧ ¬ (s[k].toNat : Int) = 34 ∧ ¬ (s[k].toNat : Int) = 92
      · obtain ⟨h32, h34, h92⟩ := hpl
        have HR' : Hid (L ++ ((bytesI s).drop p).take (k + 1 - p) = (xs ++ [34]) ++ Esc.escs ((bytesI s).take (k + 1))) :=
          Esc.rel_plain hp hkb (by rw [HAT]; exact Esc.esc_plain h32 h34 h92) HR.out
        have t34 : ((s[k].toNat : Int) != 34) = true := by simpa using h34
        have t92 : ((s[k].toNat : Int) != 92) = true := by simpa using h92
        clear HAT h34 h92
        go_wp2
        go_roundw
        case rel => exact ⟨k + 1, p, L, by omega, by omega, rfl, by go_num, HR', HA⟩
        case measure => simp [intOf]; omega
      · have HR' : Hid ((L ++ ((bytesI s).drop p).take (k - p) ++ Esc.esc (s[k].toNat : Int)) ++ ((bytesI s).drop (k + 1)).take (k + 1 - (k + 1)) = (xs ++ [34]) ++ Esc.escs ((bytesI s).take (k + 1))) := by
          have h := Esc.rel_esc hkb HR.out
          rw [HAT] at h
          exact h
        clear HAT HR
        by_cases h34 : (s[k].toNat : Int) = 34
        · have ee : Esc.esc (s[k].toNat : Int) = Esc.esc 34 := by rw [h34]
          rw [ee] at HR'
          rw [Esc.esc_two (.inl rfl)] at HR'
          clear hpl ee
          go_wp2_with (at_builtin; refine Lib.wpList_append_own_string _ rfl (.tmp 30) (.tmp 34) 22 9 rfl w.heap.size 5 i0 Try.underlying22 Try.underlying9 hi hz0 hz1 hz2 _ _ _ rfl HA.out.1 _ rfl ?_ ?_ HA.out.2.2 ?_)
          · simp; unfold maxLen; omega
          · simp; omega
          intro v2 w2 hown2 hgrow2 _
          have H2 : Hid (Has w.heap.size w (L ++ ((bytesI s).drop p).take (k - p)) v2 w2) := HA.out.more (seg_cells s p k) (seg_size s p k hk) hown2 hgrow2
          have hl2 : (L ++ ((bytesI s).drop p).take (k - p)).length ≤ 3300000 := by rw [List.length_append, ← seg_size s p k hk]; exact hLn
          obtain ⟨L2, hL2⟩ : ∃ L2, L2 = L ++ ((bytesI s).drop p).take (k - p) := ⟨_, rfl⟩
          rw [← hL2] at H2 hl2 HR'
          clear hown2 hgrow2 HA hL2
          go_wp2_with (at_builtin; refine wpList_append_own _ rfl (.tmp 49) (.tmp 51) 22 rfl w.heap.size 5 i0 (.int .u8 0) 1 1 Try.underlying22 hi hz0 hz1 hz2 rfl (by decide) _ _ _ rfl (H2.out.1.alloc _) ⟨w2.heap.size, 0, none⟩ 2 2 [.int .u8 92, .int .u8 34] rfl rfl ?_ ?_ ?_ ?_ ?_ ?_)
          · intro j u hj
            match j, hj with
            | 0, hj => simp at hj; subst hj; simp [Addr.add]
            | 1, hj => simp at hj; subst hj; simp [Addr.add]
          · intro u hu; simp at hu; rcases hu with rfl | rfl <;> rfl
          · unfold maxLen; omega
          · omega
          · have := H2.out.2.2; simp; omega
          intro v3 w3 hown3 hgrow3 _
          have H3 : Hid (Has w.heap.size w (L2 ++ [92, 34]) v3 w3) := (H2.out.alloc _).more (news := [92, 34]) rfl rfl hown3 hgrow3
          clear hown3 hgrow3 H2
          go_wp2
          go_roundw
          case rel => exact ⟨k + 1, k + 1, _, by omega, by omega, by go_num, by go_num, HR', H3⟩
          case measure => simp [intOf]; omega
        by_cases h92 : (s[k].toNat : Int) = 92
        · have ee : Esc.esc (s[k].toNat : Int) = Esc.esc 92 := by rw [h92]
          rw [ee] at HR'
          rw [Esc.esc_two (.inr rfl)] at HR'
          clear hpl ee
          go_wp2_with (at_builtin; refine Lib.wpList_append_own_string _ rfl (.tmp 30) (.tmp 34) 22 9 rfl w.heap.size 5 i0 Try.underlying22 Try.underlying9 hi hz0 hz1 hz2 _ _ _ rfl HA.out.1 _ rfl ?_ ?_ HA.out.2.2 ?_)
          · simp; unfold maxLen; omega
          · simp; omega
          intro v2 w2 hown2 hgrow2 _
          have H2 : Hid (Has w.heap.size w (L ++ ((bytesI s).drop p).take (k - p)) v2 w2) := HA.out.more (seg_cells s p k) (seg_size s p k hk) hown2 hgrow2
          have hl2 : (L ++ ((bytesI s).drop p).take (k - p)).length ≤ 3300000 := by rw [List.length_append, ← seg_size s p k hk]; exact hLn
          obtain ⟨L2, hL2⟩ : ∃ L2, L2 = L ++ ((bytesI s).drop p).take (k - p) := ⟨_, rfl⟩
          rw [← hL2] at H2 hl2 HR'
          clear hown2 hgrow2 HA hL2
          go_wp2_with (at_builtin; refine wpList_append_own _ rfl (.tmp 49) (.tmp 51) 22 rfl w.heap.size 5 i0 (.int .u8 0) 1 1 Try.underlying22 hi hz0 hz1 hz2 rfl (by decide) _ _ _ rfl (H2.out.1.alloc _) ⟨w2.heap.size, 0, none⟩ 2 2 [.int .u8 92, .int .u8 92] rfl rfl ?_ ?_ ?_ ?_ ?_ ?_)
          · intro j u hj
            match j, hj with
            | 0, hj => simp at hj; subst hj; simp [Addr.add]
            | 1, hj => simp at hj; subst hj; simp [Addr.add]
          · intro u hu; simp at hu; rcases hu with rfl | rfl <;> rfl
          · unfold maxLen; omega
          · omega
          · have := H2.out.2.2; simp; omega
          intro v3 w3 hown3 hgrow3 _
          have H3 : Hid (Has w.heap.size w (L2 ++ [92, 92]) v3 w3) := (H2.out.alloc _).more (news := [92, 92]) rfl rfl hown3 hgrow3
          clear hown3 hgrow3 H2
          go_wp2
          go_roundw
          case rel => exact ⟨k + 1, k + 1, _, by omega, by omega, by go_num, by go_num, HR', H3⟩
          case measure => simp [intOf]; omega
        by_cases h8 : (s[k].toNat : Int) = 8
        · have ee : Esc.esc (s[k].toNat : Int) = Esc.esc 8 := by rw [h8]
          rw [ee] at HR'
          have e8 : Esc.esc 8 = [92, 98] := by decide
          rw [e8] at HR'
          clear e8
          clear hpl ee
          go_wp2_with (at_builtin; refine Lib.wpList_append_own_string _ rfl (.tmp 30) (.tmp 34) 22 9 rfl w.heap.size 5 i0 Try.underlying22 Try.underlying9 hi hz0 hz1 hz2 _ _ _ rfl HA.out.1 _ rfl ?_ ?_ HA.out.2.2 ?_)
          · simp; unfold maxLen; omega
          · simp; omega
          intro v2 w2 hown2 hgrow2 _
          have H2 : Hid (Has w.heap.size w (L ++ ((bytesI s).drop p).take (k - p)) v2 w2) := HA.out.more (seg_cells s p k) (seg_size s p k hk) hown2 hgrow2
          have hl2 : (L ++ ((bytesI s).drop p).take (k - p)).length ≤ 3300000 := by rw [List.length_append, ← seg_size s p k hk]; exact hLn
          obtain ⟨L2, hL2⟩ : ∃ L2, L2 = L ++ ((bytesI s).drop p).take (k - p) := ⟨_, rfl⟩
          rw [← hL2] at H2 hl2 HR'
          clear hown2 hgrow2 HA hL2
          go_wp2_with (at_builtin; refine Lib.wpList_append_own_string _ rfl (.tmp 55) (.const (.string ⟨#[92, 98]⟩)) 22 9 rfl w.heap.size 5 i0 Try.underlying22 Try.underlying9 hi hz0 hz1 hz2 _ _ _ rfl H2.out.1 ⟨#[92, 98]⟩ rfl ?_ ?_ H2.out.2.2 ?_)
          · show L2.length + 2 ≤ maxLen; unfold maxLen; omega
          · show L2.length + 2 ≤ _; omega
          intro v3 w3 hown3 hgrow3 _
          have H3 : Hid (Has w.heap.size w (L2 ++ [92, 98]) v3 w3) := H2.out.more (news := [92, 98]) rfl rfl hown3 hgrow3
          clear hown3 hgrow3 H2
          go_wp2
          go_roundw
          case rel => exact ⟨k + 1, k + 1, _, by omega, by omega, by go_num, by go_num, HR', H3⟩
          case measure => simp [intOf]; omega
        by_cases h9 : (s[k].toNat : Int) = 9
        · have ee : Esc.esc (s[k].toNat : Int) = Esc.esc 9 := by rw [h9]
          rw [ee] at HR'
          have e9 : Esc.esc 9 = [92, 116] := by decide
          rw [e9] at HR'
          clear e9
          clear hpl ee
          go_wp2_with (at_builtin; refine Lib.wpList_append_own_string _ rfl (.tmp 30) (.tmp 34) 22 9 rfl w.heap.size 5 i0 Try.underlying22 Try.underlying9 hi hz0 hz1 hz2 _ _ _ rfl HA.out.1 _ rfl ?_ ?_ HA.out.2.2 ?_)
          · simp; unfold maxLen; omega
          · simp; omega
          intro v2 w2 hown2 hgrow2 _
          have H2 : Hid (Has w.heap.size w (L ++ ((bytesI s).drop p).take (k - p)) v2 w2) := HA.out.more (seg_cells s p k) (seg_size s p k hk) hown2 hgrow2
          have hl2 : (L ++ ((bytesI s).drop p).take (k - p)).length ≤ 3300000 := by rw [List.length_append, ← seg_size s p k hk]; exact hLn
          obtain ⟨L2, hL2⟩ : ∃ L2, L2 = L ++ ((bytesI s).drop p).take (k - p) := ⟨_, rfl⟩
          rw [← hL2] at H2 hl2 HR'
          clear hown2 hgrow2 HA hL2
          go_wp2_with (at_builtin; refine Lib.wpList_append_own_string _ rfl (.tmp 59) (.const (.string ⟨#[92, 116]⟩)) 22 9 rfl w.heap.size 5 i0 Try.underlying22 Try.underlying9 hi hz0 hz1 hz2 _ _ _ rfl H2.out.1 ⟨#[92, 116]⟩ rfl ?_ ?_ H2.out.2.2 ?_)
          · show L2.length + 2 ≤ maxLen; unfold maxLen; omega
          · show L2.length + 2 ≤ _; omega
          intro v3 w3 hown3 hgrow3 _
          have H3 : Hid (Has w.heap.size w (L2 ++ [92, 116]) v3 w3) := H2.out.more (news := [92, 116]) rfl rfl hown3 hgrow3
          clear hown3 hgrow3 H2
          go_wp2
          go_roundw
          case rel => exact ⟨k + 1, k + 1, _, by omega, by omega, by go_num, by go_num, HR', H3⟩
          case measure => simp [intOf]; omega
        by_cases h10 : (s[k].toNat : Int) = 10
        · have ee : Esc.esc (s[k].toNat : Int) = Esc.esc 10 := by rw [h10]
          rw [ee] at HR'
          have e10 : Esc.esc 10 = [92, 110] := by decide
          rw [e10] at HR'
          clear e10
          clear hpl ee
          go_wp2_with (at_builtin; refine Lib.wpList_append_own_string _ rfl (.tmp 30) (.tmp 34) 22 9 rfl w.heap.size 5 i0 Try.underlying22 Try.underlying9 hi hz0 hz1 hz2 _ _ _ rfl HA.out.1 _ rfl ?_ ?_ HA.out.2.2 ?_)
          · simp; unfold maxLen; omega
          · simp; omega
          intro v2 w2 hown2 hgrow2 _
          have H2 : Hid (Has w.heap.size w (L ++ ((bytesI s).drop p).take (k - p)) v2 w2) := HA.out.more (seg_cells s p k) (seg_size s p k hk) hown2 hgrow2
          have hl2 : (L ++ ((bytesI s).drop p).take (k - p)).length ≤ 3300000 := by rw [List.length_append, ← seg_size s p k hk]; exact hLn
          obtain ⟨L2, hL2⟩ : ∃ L2, L2 = L ++ ((bytesI s).drop p).take (k - p) := ⟨_, rfl⟩
          rw [← hL2] at H2 hl2 HR'
          clear hown2 hgrow2 HA hL2
          go_wp2_with (at_builtin; refine Lib.wpList_append_own_string _ rfl (.tmp 63) (.const (.string ⟨#[92, 110]⟩)) 22 9 rfl w.heap.size 5 i0 Try.underlying22 Try.underlying9 hi hz0 hz1 hz2 _ _ _ rfl H2.out.1 ⟨#[92, 110]⟩ rfl ?_ ?_ H2.out.2.2 ?_)
          · show L2.length + 2 ≤ maxLen; unfold maxLen; omega
          · show L2.length + 2 ≤ _; omega
          intro v3 w3 hown3 hgrow3 _
          have H3 : Hid (Has w.heap.size w (L2 ++ [92, 110]) v3 w3) := H2.out.more (news := [92, 110]) rfl rfl hown3 hgrow3
          clear hown3 hgrow3 H2
          go_wp2
          go_roundw
          case rel => exact ⟨k + 1, k + 1, _, by omega, by omega, by go_num, by go_num, HR', H3⟩
          case measure => simp [intOf]; omega
        by_cases h12 : (s[k].toNat : Int) = 12
        · have ee : Esc.esc (s[k].toNat : Int) = Esc.esc 12 := by rw [h12]
          rw [ee] at HR'
          have e12 : Esc.esc 12 = [92, 102] := by decide
          rw [e12] at HR'
          clear e12
          clear hpl ee
          go_wp2_with (at_builtin; refine Lib.wpList_append_own_string _ rfl (.tmp 30) (.tmp 34) 22 9 rfl w.heap.size 5 i0 Try.underlying22 Try.underlying9 hi hz0 hz1 hz2 _ _ _ rfl HA.out.1 _ rfl ?_ ?_ HA.out.2.2 ?_)
          · simp; unfold maxLen; omega
          · simp; omega
          intro v2 w2 hown2 hgrow2 _
          have H2 : Hid (Has w.heap.size w (L ++ ((bytesI s).drop p).take (k - p)) v2 w2) := HA.out.more (seg_cells s p k) (seg_size s p k hk) hown2 hgrow2
          have hl2 : (L ++ ((bytesI s).drop p).take (k - p)).length ≤ 3300000 := by rw [List.length_append, ← seg_size s p k hk]; exact hLn
          obtain ⟨L2, hL2⟩ : ∃ L2, L2 = L ++ ((bytesI s).drop p).take (k - p) := ⟨_, rfl⟩
          rw [← hL2] at H2 hl2 HR'
          clear hown2 hgrow2 HA hL2
          go_wp2_with (at_builtin; refine Lib.wpList_append_own_string _ rfl (.tmp 67) (.const (.string ⟨#[92, 102]⟩)) 22 9 rfl w.heap.size 5 i0 Try.underlying22 Try.underlying9 hi hz0 hz1 hz2 _ _ _ rfl H2.out.1 ⟨#[92, 102]⟩ rfl ?_ ?_ H2.out.2.2 ?_)
          · show L2.length + 2 ≤ maxLen; unfold maxLen; omega
          · show L2.length + 2 ≤ _; omega
          intro v3 w3 hown3 hgrow3 _
          have H3 : Hid (Has w.heap.size w (L2 ++ [92, 102]) v3 w3) := H2.out.more (news := [92, 102]) rfl rfl hown3 hgrow3
          clear hown3 hgrow3 H2
          go_wp2
          go_roundw
          case rel => exact ⟨k + 1, k + 1, _, by omega, by omega, by go_num, by go_num, HR', H3⟩
          case measure => simp [intOf]; omega
        by_cases h13 : (s[k].toNat : Int) = 13
        · have ee : Esc.esc (s[k].toNat : Int) = Esc.esc 13 := by rw [h13]
          rw [ee] at HR'
          have e13 : Esc.esc 13 = [92, 114] := by decide
          rw [e13] at HR'
          clear e13
          clear hpl ee
          go_wp2_with (at_builtin; refine Lib.wpList_append_own_string _ rfl (.tmp 30) (.tmp 34) 22 9 rfl w.heap.size 5 i0 Try.underlying22 Try.underlying9 hi hz0 hz1 hz2 _ _ _ rfl HA.out.1 _ rfl ?_ ?_ HA.out.2.2 ?_)
          · simp; unfold maxLen; omega
          · simp; omega
          intro v2 w2 hown2 hgrow2 _
          have H2 : Hid (Has w.heap.size w (L ++ ((bytesI s).drop p).take (k - p)) v2 w2) := HA.out.more (seg_cells s p k) (seg_size s p k hk) hown2 hgrow2
          have hl2 : (L ++ ((bytesI s).drop p).take (k - p)).length ≤ 3300000 := by rw [List.length_append, ← seg_size s p k hk]; exact hLn
          obtain ⟨L2, hL2⟩ : ∃ L2, L2 = L ++ ((bytesI s).drop p).take (k - p) := ⟨_, rfl⟩
          rw [← hL2] at H2 hl2 HR'
          clear hown2 hgrow2 HA hL2
          go_wp2_with (at_builtin; refine Lib.wpList_append_own_string _ rfl (.tmp 71) (.const (.string ⟨#[92, 114]⟩)) 22 9 rfl w.heap.size 5 i0 Try.underlying22 Try.underlying9 hi hz0 hz1 hz2 _ _ _ rfl H2.out.1 ⟨#[92, 114]⟩ rfl ?_ ?_ H2.out.2.2 ?_)
          · show L2.length + 2 ≤ maxLen; unfold maxLen; omega
          · show L2.length + 2 ≤ _; omega
          intro v3 w3 hown3 hgrow3 _
          have H3 : Hid (Has w.heap.size w (L2 ++ [92, 114]) v3 w3) := H2.out.more (news := [92, 114]) rfl rfl hown3 hgrow3
          clear hown3 hgrow3 H2
          go_wp2
          go_roundw
          case rel => exact ⟨k + 1, k + 1, _, by omega, by omega, by go_num, by go_num, HR', H3⟩
          case measure => simp [intOf]; omega
        have hlo : (s[k].toNat : Int) < 32 := by omega
        have ee := Esc.esc_hex hlo h8 h9 h10 h12 h13
        rw [ee] at HR'
        clear ee hpl
        go_wp2_with (at_builtin; refine Lib.wpList_append_own_string _ rfl (.tmp 30) (.tmp 34) 22 9 rfl w.heap.size 5 i0 Try.underlying22 Try.underlying9 hi hz0 hz1 hz2 _ _ _ rfl HA.out.1 _ rfl ?_ ?_ HA.out.2.2 ?_)
        · unfold maxLen; omega
        · omega
        intro v2 w2 hown2 hgrow2 _
        have H2 : Hid (Has w.heap.size w (L ++ ((bytesI s).drop p).take (k - p)) v2 w2) := HA.out.more (seg_cells s p k) (seg_size s p k hk) hown2 hgrow2
        have hl2 : (L ++ ((bytesI s).drop p).take (k - p)).length ≤ 3300000 := by rw [List.length_append, ← seg_size s p k hk]; exact hLn
        obtain ⟨L2, hL2⟩ : ∃ L2, L2 = L ++ ((bytesI s).drop p).take (k - p) := ⟨_, rfl⟩
        rw [← hL2] at H2 hl2 HR'
        clear hown2 hgrow2 HA hL2
        have q1 : 0 ≤ (s[k].toNat : Int) / 16 := by omega
        have q2 : (s[k].toNat : Int) / 16 < 16 := by omega
        have q3 : 0 ≤ (s[k].toNat : Int) % 16 := by omega
        have q4 : (s[k].toNat : Int) % 16 < 16 := by omega
        have hb15 : bits BinOp.and IntKind.u8 (s[k].toNat : Int) 15 = (s[k].toNat : Int) % 16 := and15 _ (by omega)
        have hd1 := hex_at _ q1 q2
        have hd2 := hex_at _ q3 q4
        unfold hexText at hd1 hd2
        generalize Esc.hexD ((s[k].toNat : Int) / 16) = d1 at hd1 HR'
        generalize Esc.hexD ((s[k].toNat : Int) % 16) = d2 at hd2 HR'
        have H6 : Hid (Has w.heap.size w L2 v2 (w2.alloc (.cells #[.int .u8 92, .int .u8 117, .int .u8 48, .int .u8 48, .int .u8 d1, .int .u8 d2] 5)).drew) := (H2.out.alloc _).drew
        have HN6 : Hid (∀ j u, ([.int .u8 92, .int .u8 117, .int .u8 48, .int .u8 48, .int .u8 d1, .int .u8 d2] : List Value)[j]? = some u →
            (w2.alloc (.cells #[.int .u8 92, .int .u8 117, .int .u8 48, .int .u8 48, .int .u8 d1, .int .u8 d2] 5)).drew.cell? ((⟨w2.heap.size, 0, none⟩ : Addr).add j) = some u) := by
          intro j u hj
          rw [Addr.add_lit]
          show (w2.alloc _).cell? _ = _
          rw [World.cell?_alloc_at _ _ _ _ rfl]
          simpa using hj
        go_wp2
        go_region_law (refine step_append_own rfl (.tmp 37) (.tmp 44) 22 rfl w.heap.size 5 i0 (.int .u8 0) 1 1 Try.underlying22 hi hz0 hz1 hz2 rfl (by decide) v2 L2.length (cells8 L2) (by simp [Act.eval]) H6.out.1 ⟨w2.heap.size, 0, none⟩ 6 6 [.int .u8 92, .int .u8 117, .int .u8 48, .int .u8 48, .int .u8 d1, .int .u8 d2] (by simp [Act.eval]) rfl HN6.out (by intro u hu; simp at hu; rcases hu with rfl | rfl | rfl | rfl | rfl <;> rfl) (by unfold maxLen; omega) (by omega) H6.out.2.2 ?_; intro v3 w3 hown3 hgrow3; have H3 : Hid (Has w.heap.size w (L2 ++ [92, 117, 48, 48, d1, d2]) v3 w3) := H6.out.more (news := [92, 117, 48, 48, d1, d2]) rfl rfl hown3 hgrow3; clear hown3 hgrow3 H2 H6 HN6)
        all_goals
          go_wp2
          go_roundw
          case rel => exact ⟨k + 1, k + 1, _, by omega, by omega, by go_num, by go_num, HR', by assumption⟩
          case measure => simp [intOf]; omega
    · obtain rfl : k = s.size := by omega
      have HE : Hid (L ++ ((bytesI s).drop p).take (s.size - p) ++ [34] = xs ++ Esc.quo (bytesI s)) := by
        have h := HR.out
        have e1 : (bytesI s).take s.size = bytesI s := List.take_of_length_le (by rw [HBL.out]; omega)
        rw [e1] at h
        show _ = _
        rw [h, Esc.quo]
        simp
      clear HR
      go_wp2_with (at_builtin; refine Lib.wpList_append_own_string _ rfl (.tmp 75) (.tmp 78) 22 9 rfl w.heap.size 5 i0 Try.underlying22 Try.underlying9 hi hz0 hz1 hz2 _ _ _ rfl HA.out.1 _ rfl ?_ ?_ HA.out.2.2 ?_)
      · simp; unfold maxLen; omega
      · simp; omega
      intro v2 w2 hown2 hgrow2 _
      have H2 : Hid (Has w.heap.size w (L ++ ((bytesI s).drop p).take (s.size - p)) v2 w2) := HA.out.more (seg_cells s p s.size) (seg_size s p s.size hk) hown2 hgrow2
      have hl2 : (L ++ ((bytesI s).drop p).take (s.size - p)).length ≤ 3300000 := by rw [List.length_append, ← seg_size s p s.size hk]; exact hLn
      obtain ⟨L2, hL2⟩ : ∃ L2, L2 = L ++ ((bytesI s).drop p).take (s.size - p) := ⟨_, rfl⟩
      rw [← hL2] at H2 hl2 HE
      clear hown2 hgrow2 HA hL2
      go_wp2_with (at_builtin; refine wpList_append_own _ rfl (.tmp 79) (.tmp 80) 22 rfl w.heap.size 5 i0 (.int .u8 0) 1 1 Try.underlying22 hi hz0 hz1 hz2 rfl (by decide) _ _ _ rfl (H2.out.1.alloc _) ⟨w2.heap.size, 0, none⟩ 1 1 [.int .u8 34] rfl rfl ?_ ?_ ?_ ?_ ?_ ?_)
      · intro j u hj
        match j, hj with
        | 0, hj => simp at hj; subst hj; simp [Addr.add]
      · intro u hu; simp at hu; subst hu; rfl
      · unfold maxLen; omega
      · omega
      · have := H2.out.2.2; simp; omega
      intro v3 w3 hown3 hgrow3 _
      have H3 : Hid (Has w.heap.size w (L2 ++ [34]) v3 w3) := (H2.out.alloc _).more (news := [34]) rfl rfl hown3 hgrow3
      rw [HE.out] at H3
      clear hown3 hgrow3 H2
      go_wp2
      go_ret
      exact ⟨_, rfl, H3.out⟩

/-- the door -/
theorem app14 (ao : Option Addr) (n : Nat) (xs : List Int) (s : ByteArray) (w : World) (hn : xs.length = n) (hnl : n ≤ 2000000) (hs : s.size ≤ 200000)
    (hnone : ao = none → n = 0) (hcells : ∀ b, ao = some b → ∀ j u, (cells8 xs)[j]? = some u → w.cell? (b.add j) = some u) :
    Calls Try.prog 14 #[.slice ao n n, .string s] w fun e w' => ∃ v', e = .returned v' ∧ Has w.heap.size w (xs ++ Esc.quo (bytesI s)) v' w' := by
  go_enter Try.func14, Try.ntmps14
  go_wp2_with (go_at_call 30; refine (app30 ao n xs s _ hn hnl hs hnone hcells).mono ?_; rintro e w' ⟨v', rfl, H⟩)
  go_ret
  exact ⟨_, rfl, H⟩

/-- onto nil; what comes back is written out. -/
theorem app14_nil (s : ByteArray) (w : World) (hs : s.size ≤ 200000) :
    Calls Try.prog 14 #[.slice none 0 0, .string s] w fun e w' => ∃ g cap, e = .returned (.slice (some ⟨g, 0, none⟩) (Esc.quo (bytesI s)).length cap) ∧ w.heap.size ≤ g ∧ g < w'.heap.size ∧ Below w.heap.size w w' ∧
      (∀ i, i < (Esc.quo (bytesI s)).length → w'.cell? ⟨g, i, none⟩ = some (.int .u8 ((Esc.quo (bytesI s)).getD i 0))) := by
  refine (app14 none 0 [] s w rfl (by omega) hs (fun _ => rfl) (fun b h => by cases h)).mono ?_
  rintro e w' ⟨v', rfl, hown, hb, hB⟩
  rw [List.nil_append] at hown
  have hq := Esc.quo_len (bytesI s)
  rcases hown.2 with ⟨rfl, h0⟩ | ⟨g, cap, cur, rfl, hbg, hg, _⟩
  · omega
  · have hlt := hown.lt g rfl
    exact ⟨g, cap, rfl, hlt.1, hlt.2, hb, fun i hi => own_cell hown i hi⟩

/-- the same, the list and its length by names of their own. -/
theorem app14_q (s : ByteArray) (Q : List Int) (l : Nat) (w : World) (hs : s.size ≤ 200000) (hQ : Esc.quo (bytesI s) = Q) (hl : Q.length = l) :
    Calls Try.prog 14 #[.slice none 0 0, .string s] w fun e w' => ∃ g cap, e = .returned (.slice (some ⟨g, 0, none⟩) l cap) ∧ w.heap.size ≤ g ∧ g < w'.heap.size ∧ Below w.heap.size w w' ∧
      (∀ i, i < l → w'.cell? ⟨g, i, none⟩ = some (.int .u8 (Q.getD i 0))) := by
  subst hQ hl
  exact app14_nil s w hs
end Go.Proofs.Qxb6000664a
