/-
  The small readers of a literal: Pos, End (12, 13), the count and the elements' positions (14, 15, 16).
-/
import Derived.Test.YoeaqwLit
import Derived.Deep.QuietTactic
import Derived.BigQuiet
namespace Go.Proofs.Yoeaqw
open Go.RowKit

theorem meth_pos (a : Addr) (w : World) : (method 173 37 (.pointer (some a)) "Pos").run Eaqg.prog w = .ok (44, .pointer (some a)) w := by kernel_rfl
theorem meth_end (a : Addr) (w : World) : (method 173 37 (.pointer (some a)) "End").run Eaqg.prog w = .ok (43, .pointer (some a)) w := by kernel_rfl
theorem meth_string (a : Addr) (w : World) : (method 173 37 (.pointer (some a)) "String").run Eaqg.prog w = .ok (45, .pointer (some a)) w := by kernel_rfl

theorem pos12 (g n : Nat) (ns : Nat → ByteArray) (qs : Nat → Int) (l r : Int) (w : World) (h : LitAt w g n ns qs l r) :
    Calls Eaqg.prog 12 #[.pointer (some ⟨g, 0, none⟩)] w fun e w' => e = .returned (.int .i64 l) ∧ w' = w := by
  obtain ⟨ae, ce, bs, hg, h0, h1, h2, he, hi⟩ := h
  clear he hi
  go_enter Eaqg.func12, Eaqg.ntmps12
  go_wp2
  go_ret
  exact ⟨rfl, rfl⟩

theorem end13 (g n : Nat) (ns : Nat → ByteArray) (qs : Nat → Int) (l r : Int) (w : World) (h : LitAt w g n ns qs l r) :
    Calls Eaqg.prog 13 #[.pointer (some ⟨g, 0, none⟩)] w fun e w' => e = .returned (.int .i64 (wrap64 (r + 1))) ∧ w' = w := by
  obtain ⟨ae, ce, bs, hg, h0, h1, h2, he, hi⟩ := h
  clear he hi
  go_enter Eaqg.func13, Eaqg.ntmps13
  go_wp2
  go_ret
  exact ⟨rfl, rfl⟩

theorem count14 (g n : Nat) (ns : Nat → ByteArray) (qs : Nat → Int) (l r : Int) (w : World) (h : LitAt w g n ns qs l r) :
    Calls Eaqg.prog 14 #[.pointer (some ⟨g, 0, none⟩)] w fun e w' => e = .returned (.int .i64 n) ∧ w' = w := by
  obtain ⟨ae, ce, bs, hg, h0, h1, h2, he, hi⟩ := h
  clear he hi
  go_enter Eaqg.func14, Eaqg.ntmps14
  go_wp2
  go_ret
  exact ⟨rfl, rfl⟩

theorem pos15 (g n k : Nat) (ns : Nat → ByteArray) (qs : Nat → Int) (l r : Int) (w : World) (h : LitAt w g n ns qs l r) (hk : k < n) (_hn : n ≤ 65536) :
    Calls Eaqg.prog 15 #[.pointer (some ⟨g, 0, none⟩), .int .i64 k] w fun e w' => e = .returned (.int .i64 (qs k)) ∧ w' = w := by
  obtain ⟨ae, ce, bs, hg, h0, h1, h2, he, hi⟩ := h
  rcases he with he | ⟨b, off, rfl, hb, hc⟩
  · omega
  · have hck := hc k hk
    obtain ⟨c0, c1, c2⟩ := hi k hk
    clear hc hi
    unfold idAt at hck
    have hme := meth_pos
    go_enter Eaqg.func15, Eaqg.ntmps15
    go_wp2
    go_ret
    exact ⟨rfl, rfl⟩

/-- (*Ident).End: two reads in an order that Go leaves open. -/
theorem end43 (b : Nat) (s : ByteArray) (p : Int) (w : World) (c1 : w.cell? ⟨b, 0, none⟩ = some (.string s)) (c2 : w.cell? ⟨b, 1, none⟩ = some (.int .i64 p)) :
    Calls Eaqg.prog 43 #[.pointer (some ⟨b, 0, none⟩)] w fun e w' => e = .returned (.int .i64 (wrap64 (p + s.size))) ∧ ∃ m, w' = w.drewN m := by
  go_enter Eaqg.func43, Eaqg.ntmps43
  go_wp2
  go_quiet (fail)
  go_wp2
  go_ret
  exact ⟨rfl, _, rfl⟩

theorem end16 (g n k : Nat) (ns : Nat → ByteArray) (qs : Nat → Int) (l r : Int) (w : World) (h : LitAt w g n ns qs l r) (hk : k < n) (_hn : n ≤ 65536) :
    Calls Eaqg.prog 16 #[.pointer (some ⟨g, 0, none⟩), .int .i64 k] w fun e w' => e = .returned (.int .i64 (wrap64 (qs k + (ns k).size))) ∧ ∃ m, w' = w.drewN m := by
  obtain ⟨ae, ce, bs, hg, h0, h1, h2, he, hi⟩ := h
  rcases he with he | ⟨b, off, rfl, hb, hc⟩
  · omega
  · have hck := hc k hk
    obtain ⟨c0, c1, c2⟩ := hi k hk
    clear hc hi
    unfold idAt at hck
    have hme := meth_end
    go_enter Eaqg.func16, Eaqg.ntmps16
    go_wp2_with (go_at_call 43; refine (end43 _ _ _ _ c1 c2).mono ?_; rintro e w' ⟨rfl, m, rfl⟩)
    go_ret
    exact ⟨rfl, _, rfl⟩

end Go.Proofs.Yoeaqw
