/-
  Rows.FnIsUUIDFormattedAcceptedEditsRefusedSaid proved: the frame is the guide's own (howto/template, howto/shells) at this function's number and types, with an array of bytes by value opened by hand; the walk lies in a text of its own.
-/
import Derived.Test.Qxb6000664aRows
import Derived.WalkKit
import Derived.ProofKit
import Derived.OpenShut
import Derived.ShutString
import Derived.ChangeOld
import Derived.Below
import Derived.Test.Qxb6000664aClosed
import Derived.Test.Qxb6000664aEditWalk
namespace Go.Proofs.Qxb6000664a.fnIsUUIDFormattedAcceptedEditsRefused
open Go.ChangeShapes Go.WideShapes Go.ChangeAt Go.RowKit
set_option linter.unusedVariables false

theorem own : ownKnob Try.prog.godebug = none := by kernel_rfl
theorem laidOut : laidOutB Try.prog = true := by kernel_rfl
theorem cells33 : Try.prog.cellsOf 33 = 16 := by kernel_rfl
theorem cells5 : Try.prog.cellsOf 5 = 1 := by kernel_rfl

theorem okWide_array {P : Program} {w : World} {r : Reach} {base : Nat} {t e : TypeId} {n : Nat} {v : Value} (ht : P.underlying t = some (.array n e)) (h : Value.okWide P w r base t v) : ∃ cs, v = .agg cs ∧ cs.size = P.cellsOf t := by
  unfold Value.okWide at h
  rw [ht] at h
  obtain ⟨cs, h1, h2, _⟩ := h
  exact ⟨cs, h1, h2⟩

/-- the array's sixteen cells are bytes. -/
theorem open_arr {H : Type} {enc : TypeId × Value → H} {W : World} {base : Nat} {spare : Nat → Bool} {held : Bool} {A : Array Value} {d : DataW H} {p : List MemPlace} (hA : A.size = 16)
    (h : DataW.Trod enc Try.prog W base spare held 33 (.agg A) d p) : ∃ bn, Arr A bn := by
  obtain ⟨fuel, hf⟩ := h
  obtain ⟨xs, m, _, _, _, hlen, hel⟩ := DataW.trod_array Try.underlying33 hf
  have hcell : ∀ i, i < 16 → ∃ b : Nat, b < 256 ∧ A[i]? = some (.int .u8 (b : Int)) := by
    intro i hi
    have h := hel i hi
    have hxi : xs[i]? = some (xs[i]'(by omega)) := List.getElem?_eq_getElem (by omega)
    rw [hxi, cells5] at h
    obtain ⟨n, hn, _, hw⟩ := DataW.trod_int Try.underlying5 h
    have hb := bounds_u8 hw
    refine ⟨n.toNat, by omega, ?_⟩
    have e1 : (Value.agg A).cells.toList = A.toList := rfl
    rw [e1, Nat.mul_one] at hn
    have hil : i < A.toList.length := by simp [hA]; exact hi
    rw [List.drop_eq_getElem_cons hil] at hn
    simp only [List.take_succ_cons, List.take_zero, List.cons.injEq, and_true] at hn
    have e2 : A[i]? = some (A.toList[i]'hil) := by
      rw [← Array.getElem?_toList, List.getElem?_eq_getElem hil]
    rw [e2, hn]
    congr 2
    omega
  refine ⟨fun i => if h : i < 16 then (hcell i h).choose else 0, hA, fun i hi => ?_⟩
  simp only [hi, dif_pos]
  exact (hcell i hi).choose_spec

set_option maxRecDepth 100000 in
theorem lifted (os : Os) (started : os.Started) (H : Type) (enc : TypeId × Value → H) :
    ReturnsInHanded {} Try.checked os 9 .any (Rows.fnIsUUIDFormattedAcceptedEditsRefusedSpec.pre6 enc Try.prog Try.f9 Rows.fnIsUUIDFormattedAcceptedEditsRefusedRow.domain false) (Rows.fnIsUUIDFormattedAcceptedEditsRefusedSpec.post enc Try.prog Try.f9 false true false false) := by
  refine returnsInHanded_of_change (C := Try.checked) own started (by kernel_rfl) Try.func9
    (ChangeSpec.witness6 (enc := enc) (C := Try.checked) false ⟨#[], #[.agg #[.int .u8 0, .int .u8 0, .int .u8 0, .int .u8 0, .int .u8 0, .int .u8 0, .int .u8 0, .int .u8 0, .int .u8 0, .int .u8 0, .int .u8 0, .int .u8 0, .int .u8 0, .int .u8 0, .int .u8 0, .int .u8 0], .int .u32 0, .int .u8 0, .int .u8 0, .int .u8 0, .int .u8 0, .int .u8 0], []⟩ 8 (by kernel_rfl) (by kernel_rfl) (by kernel_rfl) (by kernel_rfl)) ?_
  intro W base args ds gs before hval0 hW hcnd _
  have hval : ∀ (j : Nat) t v, Try.f9.params[j]? = some t → args[j]? = some v → Value.okWide Try.prog W .any base t v := hval0
  have hW' := hW
  obtain ⟨p, q, hA0, hV, rfl, hfz, hnd⟩ := hW
  have hA : DataW.TrodAll enc Try.prog W 0 (fun _ => true) true Try.f9.params.toList args.toList ds p := hA0
  rw [Try.params9] at hA hval
  obtain ⟨v0, vs0, d0, ds0, p0, q0, hargs, rfl, rfl, h0, r0⟩ := trodAll_cons hA
  obtain ⟨v1, vs1, d1, ds1, p1, q1, rfl, rfl, rfl, h1, r1⟩ := trodAll_cons r0
  obtain ⟨v2, vs2, d2, ds2, p2, q2, rfl, rfl, rfl, h2, r2⟩ := trodAll_cons r1
  obtain ⟨v3, vs3, d3, ds3, p3, q3, rfl, rfl, rfl, h3, r3⟩ := trodAll_cons r2
  obtain ⟨v4, vs4, d4, ds4, p4, q4, rfl, rfl, rfl, h4, r4⟩ := trodAll_cons r3
  obtain ⟨v5, vs5, d5, ds5, p5, q5, rfl, rfl, rfl, h5, r5⟩ := trodAll_cons r4
  obtain ⟨v6, vs6, d6, ds6, p6, q6, rfl, rfl, rfl, h6, r6⟩ := trodAll_cons r5
  obtain ⟨rfl, rfl, rfl⟩ := trodAll_nil r6
  obtain rfl : args = #[v0, v1, v2, v3, v4, v5, v6] := by cases args; simp_all
  obtain ⟨rfl, rfl⟩ := trodVars_none hV
  obtain ⟨A, rfl, hAs⟩ := okWide_array Try.underlying33 (hval 0 33 v0 rfl rfl)
  rw [cells33] at hAs
  have k0 := h0
  have lt0 : ∀ x ∈ p0, x.block < W.heap.size := by obtain ⟨m, hm⟩ := k0; exact DataW.trod_lt m _ _ _ hm
  obtain ⟨bn, HA⟩ := open_arr hAs h0
  obtain ⟨a1, rfl, rfl, rfl, w1⟩ := open_int Try.underlying34 (hval 1 34 v1 rfl rfl) h1
  obtain ⟨a2, rfl, rfl, rfl, w2⟩ := open_int Try.underlying5 (hval 2 5 v2 rfl rfl) h2
  obtain ⟨a3, rfl, rfl, rfl, w3⟩ := open_int Try.underlying5 (hval 3 5 v3 rfl rfl) h3
  obtain ⟨a4, rfl, rfl, rfl, w4⟩ := open_int Try.underlying5 (hval 4 5 v4 rfl rfl) h4
  obtain ⟨a5, rfl, rfl, rfl, w5⟩ := open_int Try.underlying5 (hval 5 5 v5 rfl rfl) h5
  obtain ⟨a6, rfl, rfl, rfl, w6⟩ := open_int Try.underlying5 (hval 6 5 v6 rfl rfl) h6
  clear hA0 hval0
  have b1 := bounds_u32 w1
  have b2 := bounds_u8 w2
  have b3 := bounds_u8 w3
  have b4 := bounds_u8 w4
  have b5 := bounds_u8 w5
  have b6 := bounds_u8 w6
  obtain ⟨pn, rfl⟩ : ∃ n : Nat, a2 = (n : Int) := ⟨a2.toNat, by omega⟩
  obtain ⟨qn, rfl⟩ : ∃ n : Nat, a5 = (n : Int) := ⟨a5.toNat, by omega⟩
  refine (edit9 A bn a1 a3 a4 a6 pn qn W HA b1.1 b1.2 (by omega) (by omega) b3.1 b3.2 b4.1 b4.2 b6.1 b6.2).mono fun e W' ⟨he, bel⟩ => ?_
  subst he
  exact ⟨_, rfl, _, _, _, [], _, [], hW', trodAll_mk1 (shut_bool Try.underlying4 _), (trodAll_cons_mk (Below.trod laidOut (by kernel_rfl) (of_decide_eq_true (by kernel_rfl)) k0 bel lt0) (trodAll_cons_mk (shut_int Try.underlying34 w1) (trodAll_cons_mk (shut_int Try.underlying5 w2) (trodAll_cons_mk (shut_int Try.underlying5 w3) (trodAll_cons_mk (shut_int Try.underlying5 w4) (trodAll_cons_mk (shut_int Try.underlying5 w5) (trodAll_cons_mk (shut_int Try.underlying5 w6) trodAll_mk0))))))), rfl, bel.frame _, fun h => by cases h⟩

theorem over : Rows.fnIsUUIDFormattedAcceptedEditsRefusedRow.holds Try.pinned (OpenSpec.ofChange Rows.fnIsUUIDFormattedAcceptedEditsRefusedSpec) :=
  OpenClaim.holds_of_wide 9 Try.f9 rfl rfl rfl rfl rfl rfl rfl ⟨rfl, rfl, rfl, rfl, rfl⟩ rfl rfl rfl rfl rfl (by kernel_rfl) Try.func9 closed9
    (of_decide_eq_true (by kernel_rfl)) (by unfold Func.isWrapper; first | (rw [if_pos (by decide +kernel)]; kernel_rfl) | (rw [if_neg (by decide +kernel)]; exact ⟨rfl, rfl⟩))
    (fun os started H enc _ => lifted os started H enc)

theorem proved : Rows.FnIsUUIDFormattedAcceptedEditsRefusedSaid :=
  over
end Go.Proofs.Qxb6000664a.fnIsUUIDFormattedAcceptedEditsRefused
