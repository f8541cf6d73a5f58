/-
  'Rows.FnArrayLitShiftMovesSpanSaid', proved: the walk (YoeaqwShift) lifted to the row.
-/
import Derived.Test.YoeaqwShift
import Derived.Test.YoeaqwOpen
namespace Go.Proofs.Yoeaqw
open Go.ChangeShapes Go.WideShapes Go.ChangeAt Go.RowKit

theorem wf_fits {x : Int} (h : (Lit.int .i64 x).wf = true) : Fits x := by
  have h1 : IntKind.i64.min = -9223372036854775808 := rfl
  have h2 : IntKind.i64.max = 9223372036854775807 := rfl
  simp only [Lit.wf, Bool.and_eq_true, decide_eq_true_eq] at h
  unfold Fits
  omega

set_option maxRecDepth 100000 in
theorem shift_lifted (os : Os) (started : os.Started) (H : Type) (enc : TypeId × Value → H) :
    ReturnsInHanded {} Eaqg.checked os 5 .any (Rows.fnArrayLitShiftMovesSpanSpec.pre6 enc Eaqg.prog Eaqg.f5 Rows.fnArrayLitShiftMovesSpanRow.domain false) (Rows.fnArrayLitShiftMovesSpanSpec.post enc Eaqg.prog Eaqg.f5 false true false false) := by
  refine returnsInHanded_of_change (C := Eaqg.checked) Eaqg.own started (by kernel_rfl) Eaqg.func5
    (ChangeSpec.witness6 (enc := enc) (C := Eaqg.checked) false ⟨#[], #[.slice none 0 0, .int .i64 0, .int .i64 0, .int .i64 0], []⟩ 8 (by kernel_rfl) (by kernel_rfl) (by kernel_rfl) (by kernel_rfl)) ?_
  intro W base args ds gs before hval0 hW hcnd _
  have hval : ∀ (j : Nat) t v, Eaqg.f5.params[j]? = some t → args[j]? = some v → Value.okWide Eaqg.prog W .any base t v := hval0
  have hW' := hW
  obtain ⟨p, q, hA0, hV, rfl, hfz, hnd⟩ := hW
  have hA : DataW.TrodAll enc Eaqg.prog W 0 (fun _ => true) true Eaqg.f5.params.toList args.toList ds p := hA0
  rw [Eaqg.params5] at hA hval
  obtain ⟨v0, v1, v2, v3, d0, d1, d2, d3, p0, p1, p2, p3, rfl, rfl, rfl, h0, h1, h2, h3⟩ := trodAll_four hA
  obtain ⟨rfl, rfl⟩ := trodVars_none hV
  obtain ⟨a0, len0, cap0, rfl⟩ := okWide_slice Eaqg.underlying22 (hval 0 22 v0 rfl rfl)
  have k0 := h0
  have lt0 : ∀ x ∈ p0, x.block < W.heap.size := by obtain ⟨m, hm⟩ := k0; exact DataW.trod_lt m _ _ _ hm
  obtain ⟨ns, w0, n0, l0⟩ := opened h0
  obtain ⟨x1, rfl, rfl, rfl, wx1⟩ := open_int Eaqg.underlying3 (hval 1 3 v1 rfl rfl) h1
  obtain ⟨x2, rfl, rfl, rfl, wx2⟩ := open_int Eaqg.underlying3 (hval 2 3 v2 rfl rfl) h2
  obtain ⟨x3, rfl, rfl, rfl, wx3⟩ := open_int Eaqg.underlying3 (hval 3 3 v3 rfl rfl) h3
  clear hA0 hval0
  simp only [List.append_nil] at hW'
  refine (shift5 a0 len0 cap0 ns x1 x2 x3 W w0 n0 l0 (wf_fits wx3)).mono fun e W' ⟨he, bel⟩ => ?_
  subst he
  exact ⟨_, rfl, _, _, _, [], _, [], hW', trodAll_mk1 (shut_bool Eaqg.underlying4 _), trodAll_mk4 (Below.trod Eaqg.laidOut (by kernel_rfl) (of_decide_eq_true (by kernel_rfl)) k0 bel lt0) (shut_int Eaqg.underlying3 wx1) (shut_int Eaqg.underlying3 wx2) (shut_int Eaqg.underlying3 wx3), rfl, bel.frame _, fun h => by cases h⟩

theorem shift_holds : Rows.fnArrayLitShiftMovesSpanRow.holds Eaqg.pinned (OpenSpec.ofChange Rows.fnArrayLitShiftMovesSpanSpec) :=
  OpenClaim.holds_of_wide 5 Eaqg.f5 rfl rfl rfl rfl rfl rfl rfl ⟨rfl, rfl, rfl, rfl, rfl⟩ rfl rfl rfl rfl rfl (by kernel_rfl) Eaqg.func5 (by kernel_rfl)
    (of_decide_eq_true (by kernel_rfl)) (by unfold Func.isWrapper; first | (rw [if_pos (by decide +kernel)]; kernel_rfl) | (rw [if_neg (by decide +kernel)]; exact ⟨rfl, rfl⟩))
    (fun os started H enc _ => shift_lifted os started H enc)

/-- THE STATEMENT. -/
theorem shiftMovesSpan_proved : Rows.FnArrayLitShiftMovesSpanSaid := shift_holds
#print axioms shiftMovesSpan_proved
end Go.Proofs.Yoeaqw
