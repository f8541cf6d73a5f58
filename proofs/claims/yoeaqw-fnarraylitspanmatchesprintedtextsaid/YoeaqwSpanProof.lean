/-
  'Rows.FnArrayLitSpanMatchesPrintedTextSaid', proved: the walk (YoeaqwSpan) lifted to the row.
-/
import Derived.Test.YoeaqwSpan
import Derived.Test.YoeaqwOpen
namespace Go.Proofs.Yoeaqw
open Go.ChangeShapes Go.WideShapes Go.ChangeAt Go.RowKit

set_option maxRecDepth 100000 in
theorem span_lifted (os : Os) (started : os.Started) (H : Type) (enc : TypeId × Value → H) :
    ReturnsInHanded {} Eaqg.checked os 4 .any (Rows.fnArrayLitSpanMatchesPrintedTextSpec.pre6 enc Eaqg.prog Eaqg.f4 Rows.fnArrayLitSpanMatchesPrintedTextRow.domain false) (Rows.fnArrayLitSpanMatchesPrintedTextSpec.post enc Eaqg.prog Eaqg.f4 false true false false) := by
  refine returnsInHanded_of_change (C := Eaqg.checked) Eaqg.own started (by kernel_rfl) Eaqg.func4
    (ChangeSpec.witness6 (enc := enc) (C := Eaqg.checked) false ⟨#[], #[.slice none 0 0, .int .i64 0], []⟩ 8 (by kernel_rfl) (by kernel_rfl) (by kernel_rfl) (by kernel_rfl)) ?_
  intro W base args ds gs before hval0 hW hcnd _
  have hval : ∀ (j : Nat) t v, Eaqg.f4.params[j]? = some t → args[j]? = some v → Value.okWide Eaqg.prog W .any base t v := hval0
  have hW' := hW
  obtain ⟨p, q, hA0, hV, rfl, hfz, hnd⟩ := hW
  have hA : DataW.TrodAll enc Eaqg.prog W 0 (fun _ => true) true Eaqg.f4.params.toList args.toList ds p := hA0
  rw [Eaqg.params4] at hA hval
  obtain ⟨v0, v1, d0, d1, p0, p1, rfl, rfl, rfl, h0, h1⟩ := trodAll_two hA
  obtain ⟨rfl, rfl⟩ := trodVars_none hV
  obtain ⟨a0, len0, cap0, rfl⟩ := okWide_slice Eaqg.underlying22 (hval 0 22 v0 rfl rfl)
  have k0 := h0
  have lt0 : ∀ x ∈ p0, x.block < W.heap.size := by obtain ⟨m, hm⟩ := k0; exact DataW.trod_lt m _ _ _ hm
  obtain ⟨ns, w0, n0, l0⟩ := opened h0
  obtain ⟨x1, rfl, rfl, rfl, wx1⟩ := open_int Eaqg.underlying3 (hval 1 3 v1 rfl rfl) h1
  clear hA0 hval0
  simp only [List.append_nil] at hW'
  refine (span4 a0 len0 cap0 ns x1 W w0 n0 l0).mono fun e W' ⟨he, bel⟩ => ?_
  subst he
  exact ⟨_, rfl, _, _, _, [], _, [], hW', trodAll_mk1 (shut_bool Eaqg.underlying4 _), trodAll_mk2 (Below.trod Eaqg.laidOut (by kernel_rfl) (of_decide_eq_true (by kernel_rfl)) k0 bel lt0) (shut_int Eaqg.underlying3 wx1), rfl, bel.frame _, fun h => by cases h⟩

theorem span_holds : Rows.fnArrayLitSpanMatchesPrintedTextRow.holds Eaqg.pinned (OpenSpec.ofChange Rows.fnArrayLitSpanMatchesPrintedTextSpec) :=
  OpenClaim.holds_of_wide 4 Eaqg.f4 rfl rfl rfl rfl rfl rfl rfl ⟨rfl, rfl, rfl, rfl, rfl⟩ rfl rfl rfl rfl rfl (by kernel_rfl) Eaqg.func4 (by kernel_rfl)
    (of_decide_eq_true (by kernel_rfl)) (by unfold Func.isWrapper; first | (rw [if_pos (by decide +kernel)]; kernel_rfl) | (rw [if_neg (by decide +kernel)]; exact ⟨rfl, rfl⟩))
    (fun os started H enc _ => span_lifted os started H enc)

/-- THE STATEMENT. -/
theorem spanMatches_proved : Rows.FnArrayLitSpanMatchesPrintedTextSaid := span_holds
#print axioms spanMatches_proved
end Go.Proofs.Yoeaqw
