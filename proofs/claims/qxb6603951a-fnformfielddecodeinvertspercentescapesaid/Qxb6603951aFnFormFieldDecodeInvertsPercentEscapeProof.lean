import Derived.Test.Qxb6603951aRows
import Derived.Test.Qxb6603951aInv
import Derived.ProofKit
import Derived.OpenShut
import Derived.ChangeOld
import Derived.Below
namespace Go.Proofs.Qxb6603951a.fnFormFieldDecodeInvertsPercentEscape
open Go.ChangeShapes Go.WideShapes Go.ChangeAt Go.RowKit
set_option linter.unusedVariables false

theorem own : ownKnob Try.prog.godebug = none := by kernel_rfl
theorem laidOut : laidOutB Try.prog = true := by kernel_rfl
theorem cells29 : Try.prog.cellsOf 29 = 8 := by kernel_rfl
theorem cells5 : Try.prog.cellsOf 5 = 1 := by kernel_rfl

theorem list8 {α : Type} (l : List α) (h : l.length = 8) : ∃ a b c d e f g i, l = [a, b, c, d, e, f, g, i] := by
  match l, h with
  | [a, b, c, d, e, f, g, i], _ => exact ⟨a, b, c, d, e, f, g, i, rfl⟩

/-- An array of eight bytes, read: its cells are eight numbers. -/
theorem arr8 {H : Type} {enc : TypeId × Value → H} {W : World} {base : Nat} {sp : Nat → Bool} {held : Bool} {l : List Value} {d : DataW H} {p : List MemPlace} (hl : l.length = 8)
    (h : DataW.Trod enc Try.prog W base sp held 29 (.agg ⟨l⟩) d p) :
    ∃ n0 n1 n2 n3 n4 n5 n6 n7 : Int, l = [.int .u8 n0, .int .u8 n1, .int .u8 n2, .int .u8 n3, .int .u8 n4, .int .u8 n5, .int .u8 n6, .int .u8 n7] := by
  obtain ⟨fuel, hf⟩ := h
  obtain ⟨xs, m, _, _, _, hlen, hx⟩ := DataW.trod_array Try.underlying29 hf
  have key : ∀ i (hi : i < 8), ∃ n : Int, l[i]'(by omega) = .int .u8 n := by
    intro i hi
    have h1 := hx i hi
    rw [cells5, Nat.mul_one, List.getElem?_eq_getElem (by omega)] at h1
    have h2 : List.take 1 (List.drop i l) = [l[i]'(by omega)] := by
      rw [List.drop_eq_getElem_cons (by omega)]; rfl
    have h3 : (Value.cells (.agg ⟨l⟩)).toList = l := rfl
    rw [h3] at h1
    rw [h2] at h1
    obtain ⟨n, e, _, _⟩ := DataW.trod_int Try.underlying5 h1
    simp at e
    exact ⟨n, e⟩
  obtain ⟨a, b, c, d, e, f, g, i, rfl⟩ := list8 l hl
  obtain ⟨n0, e0⟩ := key 0 (by omega)
  obtain ⟨n1, e1⟩ := key 1 (by omega)
  obtain ⟨n2, e2⟩ := key 2 (by omega)
  obtain ⟨n3, e3⟩ := key 3 (by omega)
  obtain ⟨n4, e4⟩ := key 4 (by omega)
  obtain ⟨n5, e5⟩ := key 5 (by omega)
  obtain ⟨n6, e6⟩ := key 6 (by omega)
  obtain ⟨n7, e7⟩ := key 7 (by omega)
  exact ⟨n0, n1, n2, n3, n4, n5, n6, n7, by simp_all⟩

theorem u8_bd {x : Int} (h : (Lit.int .u8 x).wf = true) : 0 ≤ x ∧ x ≤ 255 := by
  simp [Lit.wf, IntKind.min, IntKind.max, IntKind.signed, IntKind.bits] at h
  exact ⟨by omega, by omega⟩

set_option maxHeartbeats 1000000 in
set_option maxRecDepth 100000 in
theorem lifted (os : Os) (started : os.Started) (H : Type) (enc : TypeId × Value → H) :
    ReturnsInHanded {} Try.checked os 6 .any (Rows.fnFormFieldDecodeInvertsPercentEscapeSpec.pre6 enc Try.prog Try.f6 Rows.fnFormFieldDecodeInvertsPercentEscapeRow.domain false) (Rows.fnFormFieldDecodeInvertsPercentEscapeSpec.post enc Try.prog Try.f6 false true false false) := by
  refine returnsInHanded_of_change (C := Try.checked) own started (by kernel_rfl) Try.func6
    (ChangeSpec.witness6 (enc := enc) (C := Try.checked) false ⟨#[], #[.bool false, .bool false, .agg #[.int .u8 0, .int .u8 0, .int .u8 0, .int .u8 0, .int .u8 0, .int .u8 0, .int .u8 0, .int .u8 0], .int .i64 0, .int .u8 0, .bool false, .int .u8 0, .bool false], []⟩ 8 (by kernel_rfl) (by kernel_rfl) (by kernel_rfl) (by kernel_rfl)) ?_
  intro W base args ds gs before hval0 hW hcnd _
  have hval : ∀ (j : Nat) t v, Try.f6.params[j]? = some t → args[j]? = some v → Value.okWide Try.prog W .any base t v := hval0
  have hW' := hW
  obtain ⟨p, q, hA0, hV, rfl, hfz, hnd⟩ := hW
  have hA : DataW.TrodAll enc Try.prog W 0 (fun _ => true) true Try.f6.params.toList args.toList ds p := hA0
  rw [Try.params6] at hA hval
  obtain ⟨v0, vs0, d0, ds0, p0, q0, hargs, rfl, rfl, h0, r0⟩ := trodAll_cons hA
  obtain ⟨v1, vs1, d1, ds1, p1, q1, rfl, rfl, rfl, h1, r1⟩ := trodAll_cons r0
  obtain ⟨v2, vs2, d2, ds2, p2, q2, rfl, rfl, rfl, h2, r2⟩ := trodAll_cons r1
  obtain ⟨v3, vs3, d3, ds3, p3, q3, rfl, rfl, rfl, h3, r3⟩ := trodAll_cons r2
  obtain ⟨v4, vs4, d4, ds4, p4, q4, rfl, rfl, rfl, h4, r4⟩ := trodAll_cons r3
  obtain ⟨v5, vs5, d5, ds5, p5, q5, rfl, rfl, rfl, h5, r5⟩ := trodAll_cons r4
  obtain ⟨v6, vs6, d6, ds6, p6, q6, rfl, rfl, rfl, h6, r6⟩ := trodAll_cons r5
  obtain ⟨v7, vs7, d7, ds7, p7, q7, rfl, rfl, rfl, h7, r7⟩ := trodAll_cons r6
  obtain ⟨rfl, rfl, rfl⟩ := trodAll_nil r7
  obtain rfl : args = #[v0, v1, v2, v3, v4, v5, v6, v7] := by cases args; simp_all
  obtain ⟨rfl, rfl⟩ := trodVars_none hV
  obtain ⟨a0, rfl, rfl, rfl⟩ := open_bool Try.underlying4 (hval 0 4 v0 rfl rfl) h0
  obtain ⟨a1, rfl, rfl, rfl⟩ := open_bool Try.underlying4 (hval 1 4 v1 rfl rfl) h1
  obtain ⟨cs, rfl, hsz, _⟩ : ∃ cs, v2 = .agg cs ∧ cs.size = Try.prog.cellsOf 29 ∧ Row.okWide Try.prog W .any base 29 cs := by
    have := hval 2 29 v2 rfl rfl
    simpa [Value.okWide, Try.underlying29] using this
  rw [cells29] at hsz
  obtain ⟨l⟩ := cs
  have k2 := h2
  have lt2 : ∀ x ∈ p2, x.block < W.heap.size := by obtain ⟨m, hm⟩ := k2; exact DataW.trod_lt m _ _ _ hm
  obtain ⟨n0, n1, n2, n3, n4, n5, n6, n7, rfl⟩ := arr8 (by simpa using hsz) h2
  obtain ⟨a3, rfl, rfl, rfl, w3⟩ := open_int Try.underlying3 (hval 3 3 v3 rfl rfl) h3
  obtain ⟨a4, rfl, rfl, rfl, w4⟩ := open_int Try.underlying5 (hval 4 5 v4 rfl rfl) h4
  obtain ⟨a5, rfl, rfl, rfl⟩ := open_bool Try.underlying4 (hval 5 4 v5 rfl rfl) h5
  obtain ⟨a6, rfl, rfl, rfl, w6⟩ := open_int Try.underlying5 (hval 6 5 v6 rfl rfl) h6
  obtain ⟨a7, rfl, rfl, rfl⟩ := open_bool Try.underlying4 (hval 7 4 v7 rfl rfl) h7
  clear hA0 hval0
  refine (inv_any a0 a1 n0 n1 n2 n3 n4 n5 n6 n7 a3 a4 a5 a6 a7 (u8_bd w6).1 (u8_bd w6).2 W).mono fun e W' ⟨he, bel⟩ => ?_
  subst he
  exact ⟨_, rfl, _, _, _, [], _, [], hW', trodAll_mk1 (shut_bool Try.underlying4 _),
    (trodAll_cons_mk (shut_bool Try.underlying4 _) (trodAll_cons_mk (shut_bool Try.underlying4 _) (trodAll_cons_mk (Below.trod laidOut (by kernel_rfl) (of_decide_eq_true (by kernel_rfl)) k2 bel lt2)
      (trodAll_cons_mk (shut_int Try.underlying3 w3) (trodAll_cons_mk (shut_int Try.underlying5 w4) (trodAll_cons_mk (shut_bool Try.underlying4 _) (trodAll_cons_mk (shut_int Try.underlying5 w6) (trodAll_cons_mk (shut_bool Try.underlying4 _) trodAll_mk0)))))))), rfl, bel.frame _, fun h => by cases h⟩

theorem over : Rows.fnFormFieldDecodeInvertsPercentEscapeRow.holds Try.pinned (OpenSpec.ofChange Rows.fnFormFieldDecodeInvertsPercentEscapeSpec) :=
  OpenClaim.holds_of_wide 6 Try.f6 rfl rfl rfl rfl rfl rfl rfl ⟨rfl, rfl, rfl, rfl, rfl⟩ rfl rfl rfl rfl rfl (by kernel_rfl) Try.func6 (by kernel_rfl)
    (of_decide_eq_true (by kernel_rfl)) (by unfold Func.isWrapper; first | (rw [if_pos (by decide +kernel)]; kernel_rfl) | (rw [if_neg (by decide +kernel)]; exact ⟨rfl, rfl⟩))
    (fun os started H enc _ => lifted os started H enc)

/-- THE STATEMENT -/
theorem proved : Rows.FnFormFieldDecodeInvertsPercentEscapeSaid := over
#print axioms proved
end Go.Proofs.Qxb6603951a.fnFormFieldDecodeInvertsPercentEscape
