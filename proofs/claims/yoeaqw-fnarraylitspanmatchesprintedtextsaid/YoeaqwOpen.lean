/-
  What the rows' proofs share: the slice of strings that came in, opened.
-/
import Derived.Test.YoeaqwKit
import Derived.ProofKit
namespace Go.Proofs.Yoeaqw
open Go.ChangeShapes Go.WideShapes Go.ChangeAt Go.RowKit

theorem Eaqg.own : ownKnob Eaqg.prog.godebug = none := by kernel_rfl
theorem Eaqg.laidOut : laidOutB Eaqg.prog = true := by kernel_rfl
theorem Eaqg.cells9 : Eaqg.prog.cellsOf 9 = 1 := by kernel_rfl

/-- A slice of strings that came in: nil means empty; its cells hold its strings. -/
theorem opened {H : Type} {enc : TypeId × Value → H} {W : World} {a0 : Option Addr} {len cap : Nat} {d : DataW H} {p : List MemPlace}
    (h : DataW.Trod enc Eaqg.prog W 0 (fun _ => true) true 22 (.slice a0 len cap) d p) :
    ∃ ns : Nat → ByteArray, SS W a0 len ns ∧ (a0 = none → len = 0) ∧ len ≤ 9223372036854775807 := by
  have lt0 : ∀ x ∈ p, x.block < W.heap.size := by obtain ⟨m, hm⟩ := h; exact DataW.trod_lt m _ _ _ hm
  obtain ⟨fuel, hf⟩ := h
  rcases open_strings Eaqg.underlying22 Eaqg.underlying9 Eaqg.cells9 hf with ⟨hcs, hx⟩ | ⟨a, len', cap', ss, hcs, _, hl, hm, hz, hx, hcell, hws⟩
  · simp [Value.cells] at hcs
    obtain ⟨rfl, rfl, rfl⟩ := hcs
    exact ⟨fun _ => ByteArray.empty, .inl rfl, fun _ => rfl, by omega⟩
  · simp [Value.cells] at hcs
    obtain ⟨rfl, rfl, rfl⟩ := hcs
    simp only [Prod.mk.injEq] at hx
    obtain ⟨rfl, rfl⟩ := hx
    simp only [if_true] at hz
    unfold maxLen at hm
    refine ⟨fun i => ss.getD i ByteArray.empty, ?_, by simp, by omega⟩
    by_cases hl0 : len = 0
    · exact .inl hl0
    · obtain ⟨b, off, spot⟩ := a
      have hspot : spot = none := by simpa [Addr.add] using World.cell?_spot (hcell 0 (by omega))
      subst hspot
      have hbW : b < W.heap.size := lt0 (.cell b off) (MemPlace.mem_row.2 ⟨0, by omega, by simp⟩)
      exact .inr ⟨b, off, rfl, hbW, fun j hj => by rw [← add_plain]; exact hcell j (by omega)⟩

end Go.Proofs.Yoeaqw
