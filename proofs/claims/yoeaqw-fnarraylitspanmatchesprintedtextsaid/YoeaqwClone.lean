/-
  zzB2CloneNames (function 8): a fresh copy of the names.
-/
import Derived.Test.YoeaqwKit
namespace Go.Proofs.Yoeaqw
open Go.RowKit

theorem Eaqg.info9 : (Eaqg.prog.info? 9).map (fun i => (i.zero, i.size, i.bytes)) = some (some (.string ⟨#[]⟩), 1, 16) := by kernel_rfl

theorem set_upto {xs : List Value} {ns : Nat → ByteArray} {k : Nat} (h : ∀ j, j < k → xs[j]? = some (.string (ns j))) (hk : k < xs.length) (j : Nat) (hj : j < k + 1) :
    (xs.set k (.string (ns k)))[j]? = some (.string (ns j)) := by
  by_cases e : j = k
  · subst e; simp [hk]
  · rw [List.getElem?_set_ne (by omega)]; exact h j (by omega)

theorem clone8_nil (n cap : Nat) (w : World) (hn : n = 0) :
    Calls Eaqg.prog 8 #[.slice none n cap] w fun e w' => e = .returned (.slice none 0 0) ∧ w' = w := by
  subst hn
  have hq := fun (w : World) (a : Option Addr) (n c : Nat) => Lib.run_eql_slice_nil (P := Eaqg.prog) w 22 9 a n c 0 0 Eaqg.underlying22
  go_enter Eaqg.func8, Eaqg.ntmps8
  go_wp2
  go_ret
  exact ⟨rfl, rfl⟩

set_option maxHeartbeats 400000 in
theorem clone8_some (a : Addr) (n cap : Nat) (ns : Nat → ByteArray) (w : World) (h : SS w (some a) n ns) (hn : n ≤ 65536) :
    Calls Eaqg.prog 8 #[.slice (some a) n cap] w fun e w' => ∃ g, e = .returned (.slice (some ⟨g, 0, none⟩) n n) ∧ SS w' (some ⟨g, 0, none⟩) n ns ∧ Below w.heap.size w w' := by
  obtain ⟨i0, hi, hz0, hz1, hz2⟩ := info_parts Eaqg.info9
  have hq := fun (w : World) (a : Option Addr) (n c : Nat) => Lib.run_eql_slice_nil (P := Eaqg.prog) w 22 9 a n c 0 0 Eaqg.underlying22
  go_enter Eaqg.func8, Eaqg.ntmps8
  go_wp2_with (at_make; refine wpList_make_full _ rfl _ _ 22 rfl w.heap.size 9 i0 (.string ⟨#[]⟩) 1 Eaqg.underlying22 hi hz0 hz1 .i64 .i64 _ _ n rfl rfl rfl rfl (by rw [hz2]; omega) (by unfold maxLen; omega) (Nat.le_refl _) ?_)
  intro w1 hown hgrow
  have hb1 : Below w.heap.size w w1 := (Below.refl _ _).grown hgrow (Nat.le_refl _) (by simp)
  clear hgrow
  go_wp2
  go_loopw [4] (fun i wr => ∃ (k : Nat) (xs : List Value), k ≤ n ∧ i = .int .i64 k ∧ wr.ownsRow w.heap.size 9 1 (.slice (some ⟨w.heap.size, 0, none⟩) n n) n xs ∧ (∀ j, j < k → xs[j]? = some (.string (ns j))) ∧ Below w.heap.size w wr) (fun i _ => n - (intOf i).toNat)
  case atStart => exact ⟨0, _, Nat.zero_le _, rfl, hown, by intro j hj; omega, hb1⟩
  case round =>
    clear hown hb1
    obtain ⟨k, xs, hk, rfl, hown, hxs, hbw⟩ := hrel
    by_cases hlt : k < n
    · rcases h with h0 | ⟨b, off, hab, hb, hc⟩
      · omega
      · obtain rfl := Option.some.inj hab
        have hck : wr.cell? ⟨b, off + k, none⟩ = some (.string (ns k)) := (hbw.cell (p := ⟨b, off + k, none⟩) hb).trans (hc k hlt)
        have hold := hown.cellAt k (by omega)
        have hfr := hown.frozenAt k
        obtain ⟨u, hu⟩ : ∃ u, xs[k]? = some u := ⟨xs[k]'(by have := hown.1; omega), List.getElem?_eq_getElem _⟩
        rw [hu] at hold
        clear hc hq
        go_wp2
        go_roundw
        case rel => exact ⟨k + 1, _, by omega, by go_num, (hown.stored k _).1, fun j hj => set_upto hxs (by have := hown.1; omega) j hj, hbw.setCell (Nat.le_refl _) _⟩
        case measure => simp [intOf]; omega
    · go_wp2
      go_ret
      have : k = n := by omega
      subst this
      exact ⟨_, rfl, .inr ⟨_, 0, rfl, (hown.lt _ rfl).2, fun j hj => by rw [Nat.zero_add, hown.cellAt j (by omega)]; exact hxs j hj⟩, hbw⟩

/-- THE CONTRACT: whatever slice of at most 65536 strings: a slice of the same strings; nothing that was there has turned. -/
theorem clone8 (ao : Option Addr) (n cap : Nat) (ns : Nat → ByteArray) (w : World) (h : SS w ao n ns) (hn : n ≤ 65536) (h0 : ao = none → n = 0) :
    Calls Eaqg.prog 8 #[.slice ao n cap] w fun e w' => ∃ ao' c', e = .returned (.slice ao' n c') ∧ SS w' ao' n ns ∧ Below w.heap.size w w' := by
  match ao, h, h0 with
  | none, _, h0 =>
    have hz := h0 rfl
    subst hz
    refine (clone8_nil 0 cap w rfl).mono fun e w' ⟨he, hw⟩ => ?_
    subst hw
    exact ⟨none, 0, he, .inl rfl, Below.refl _ _⟩
  | some a, h, _ =>
    refine (clone8_some a n cap ns w h hn).mono fun e w' ⟨g, he, hs, hb⟩ => ?_
    exact ⟨_, _, he, hs, hb⟩
end Go.Proofs.Yoeaqw
