/-
  FnArrayLitShiftMovesSpan (function 5): the walk.
-/
import Derived.Test.YoeaqwBytes
import Derived.Test.YoeaqwClone
import Derived.Test.YoeaqwShelf
namespace Go.Proofs.Yoeaqw
open Go.RowKit

theorem Eaqg.info3 : (Eaqg.prog.info? 3).map (fun i => (i.zero, i.size, i.bytes)) = some (some (.int .i64 0), 1, 8) := by kernel_rfl

/-! ### The plain law: int's arithmetic wraps -/
/-- The number fits an int. -/
def Fits (d : Int) : Prop := -9223372036854775808 ≤ d ∧ d ≤ 9223372036854775807

theorem shift_pos (l d : Int) (h : Fits d) : wrap64 (wrap64 (l + d) - l) = d := by
  unfold Fits at h; unfold wrap64; omega
theorem shift_end (r d : Int) (h : Fits d) : wrap64 (wrap64 (wrap64 (r + d) + 1) - wrap64 (r + 1)) = d := by
  unfold Fits at h; unfold wrap64; omega
theorem span_len (l r : Int) : wrap64 (wrap64 (r + 1) - l) = wrap64 (wrap64 (r - l) + 1) := by
  unfold wrap64; omega

/-- The positions of the first literal's elements, and of the second's. -/
def pA (l : Int) (j : Nat) : Int := wrap64 (wrap64 (l + 1) + j)
def pB (l d : Int) (j : Nat) : Int := wrap64 (pA l j + d)
theorem shift_elem (l d : Int) (j : Nat) (h : Fits d) : wrap64 (pB l d j - pA l j) = d := by
  have e : pB l d j = wrap64 (pA l j + d) := rfl
  rw [e]
  generalize pA l j = x
  unfold Fits at h; unfold wrap64; omega

theorem LitAt.congr {w : World} {g n : Nat} {ns : Nat → ByteArray} {qs qs' : Nat → Int} {l r : Int} (h : LitAt w g n ns qs l r) (e : ∀ j, j < n → qs j = qs' j) : LitAt w g n ns qs' l r := by
  obtain ⟨ae, ce, bs, hg, h0, h1, h2, he, hi⟩ := h
  exact ⟨ae, ce, bs, hg, h0, h1, h2, he, fun j hj => by rw [← e j hj]; exact hi j hj⟩

theorem lit9_full (ao ap : Option Addr) (n cap cp : Nat) (ns : Nat → ByteArray) (ps : Nat → Int) (l r : Int) (w : World) (h : SS w ao n ns) (hp : II w ap n ps) (hn : n ≤ 65536) :
    Calls Eaqg.prog 9 #[.slice ao n cap, .slice ap n cp, .int .i64 l, .int .i64 r] w fun e w' =>
      ∃ g, e = .returned (.pointer (some ⟨g, 0, none⟩)) ∧ LitAt w' g n ns ps l r ∧ Below w.heap.size w w' := by
  refine (lit9 ao ap n cap n cp ns ps l r w h hp hn hn).mono fun e w' ⟨g, he, hL, hb⟩ => ?_
  exact ⟨g, he, hL.congr fun j hj => by simp [posAt, hj], hb⟩

/-- A row of n ints at block g, the first k of them told. -/
def Row (B : Nat) (w : World) (g n k : Nat) (ps : Nat → Int) : Prop :=
  ∃ xs : List Value, w.ownsRow B 3 1 (.slice (some ⟨g, 0, none⟩) n n) n xs ∧ ∀ j, j < k → xs[j]? = some (.int .i64 (ps j))

theorem Row.set {B g n k : Nat} {w : World} {ps : Nat → Int} (h : Row B w g n k ps) (hk : k < n) {v : Int} (hv : v = ps k) : Row B (w.setCell ⟨g, k, none⟩ (.int .i64 v)) g n (k + 1) ps := by
  subst hv
  obtain ⟨xs, hown, hxs⟩ := h
  refine ⟨_, (hown.stored k _).1, fun j hj => ?_⟩
  by_cases e : j = k
  · subst e; have := hown.1; simp [show j < xs.length by omega]
  · rw [List.getElem?_set_ne (by omega)]; exact hxs j (by omega)

theorem Row.other {B g g' n k j : Nat} {w : World} {ps : Nat → Int} (h : Row B w g n k ps) (hne : g ≠ g') {n' : Nat} {xs' : List Value} (ho : w.ownsRow B 3 1 (.slice (some ⟨g', 0, none⟩) n' n') n' xs') (v : Value) : Row B (w.setCell ⟨g', j, none⟩ v) g n k ps := by
  obtain ⟨xs, hown, hxs⟩ := h
  exact ⟨xs, hown.kept (ho.stored j v).2 (.inr (by simp [Value.ownBlock, hne])), hxs⟩

theorem Row.II {B g n : Nat} {w : World} {ps : Nat → Int} (h : Row B w g n n ps) : II w (some ⟨g, 0, none⟩) n ps := by
  obtain ⟨xs, hown, hxs⟩ := h
  exact .inr ⟨g, 0, rfl, (hown.lt _ rfl).2, fun j hj => by rw [Nat.zero_add, hown.cellAt j (by omega)]; exact hxs j hj⟩

theorem Row.old {B g n k : Nat} {w : World} {ps : Nat → Int} (h : Row B w g n k ps) (hk : k < n) : (∃ u, w.cell? ⟨g, k, none⟩ = some u) ∧ w.frozen? ⟨g, k, none⟩ = false := by
  obtain ⟨xs, hown, hxs⟩ := h
  exact ⟨⟨xs[k]'(by have := hown.1; omega), by rw [hown.cellAt k (by omega), List.getElem?_eq_getElem]⟩, hown.frozenAt k⟩

/-- A ROUND OF THE FIRST LOOP: a store into either row. -/
theorem Row.setTwo {B g g' n k : Nat} {w : World} {l d : Int} (ha : Row B w g n k (pA l)) (hb : Row B w g' n k (pB l d)) (hk : k < n) (hne : g < g') :
    Row B ((w.setCell ⟨g, k, none⟩ (.int .i64 (wrap64 (wrap64 (l + 1) + k)))).setCell ⟨g', k, none⟩ (.int .i64 (wrap64 (wrap64 (wrap64 (l + 1) + k) + d)))) g n (k + 1) (pA l) ∧
    Row B ((w.setCell ⟨g, k, none⟩ (.int .i64 (wrap64 (wrap64 (l + 1) + k)))).setCell ⟨g', k, none⟩ (.int .i64 (wrap64 (wrap64 (wrap64 (l + 1) + k) + d)))) g' n (k + 1) (pB l d) := by
  obtain ⟨xs, hown, _⟩ := id ha
  have hb1 := hb.other (j := k) (show g' ≠ g by omega) hown (.int .i64 (wrap64 (wrap64 (l + 1) + k)))
  have ha1 := ha.set hk (v := wrap64 (wrap64 (l + 1) + k)) rfl
  obtain ⟨ys, hown', _⟩ := id hb1
  exact ⟨ha1.other (by omega) hown' _, hb1.set hk rfl⟩

set_option maxHeartbeats 1000000 in
set_option maxRecDepth 100000 in
theorem shift5 (ao : Option Addr) (n cap : Nat) (ns : Nat → ByteArray) (l r d : Int) (w : World) (h : SS w ao n ns) (h0 : ao = none → n = 0) (hn : n ≤ 9223372036854775807) (hd : Fits d) :
    Calls Eaqg.prog 5 #[.slice ao n cap, .int .i64 l, .int .i64 r, .int .i64 d] w fun e w' => e = .returned (.bool true) ∧ Below w.heap.size w w' := by
  obtain ⟨i0, hi, hz0, hz1, hz2⟩ := info_parts Eaqg.info3
  have HD : Hid (Fits d) := hd
  clear hd
  go_enter Eaqg.func5, Eaqg.ntmps5
  go_wp2_with fail
  refine (bytes17 ao n cap ns l r d w h hn).mono ?_
  rintro e w' ⟨⟨x, rfl⟩, rfl⟩
  cases x
  · go_wp2_with fail
    go_ret
    exact ⟨rfl, Below.refl _ _⟩
  by_cases hbig : n ≤ 65536
  · go_wp2_with fail
    refine (bytes7 ao n cap ns _ h hbig).mono ?_
    rintro e w' ⟨⟨q, rfl, hr⟩, rfl⟩
    by_cases hr1 : q ≤ 1048576
    · have htot := hr hr1
      clear hr
      go_wp2_with fail
      refine (clone8 ao n cap ns _ h hbig h0).mono ?_
      rintro e w1 ⟨ao1, c1, rfl, hs1, hb1⟩
      clear h h0
      go_wp2_with (at_make; refine wpList_make_full _ rfl _ _ 30 rfl w1.heap.size 3 i0 (.int .i64 0) 1 Eaqg.underlying30 hi hz0 hz1 .i64 .i64 _ _ n rfl rfl rfl rfl (by rw [hz2]; omega) (by unfold maxLen; omega) (Nat.le_refl _) ?_)
      intro w2 hown1 hgrow1
      have hlt1 := (hown1.lt _ rfl).2
      have hb2 : Below w1.heap.size w1 w2 := (Below.refl _ _).grown hgrow1 (Nat.le_refl _) (by simp)
      clear hgrow1
      go_wp2_with (at_make; refine wpList_make_full _ rfl _ _ 30 rfl w1.heap.size 3 i0 (.int .i64 0) 1 Eaqg.underlying30 hi hz0 hz1 .i64 .i64 _ _ n rfl rfl rfl rfl (by rw [hz2]; omega) (by unfold maxLen; omega) hb2.size ?_)
      intro w3 hown2 hgrow2
      have RA : Row w1.heap.size w3 w1.heap.size n 0 (pA l) := ⟨_, hown1.kept hgrow2 (.inr (by simp [Value.ownBlock])), fun j hj => by omega⟩
      have RB : Row w1.heap.size w3 w2.heap.size n 0 (pB l d) := ⟨_, hown2, fun j hj => by omega⟩
      have hb3 : Below w1.heap.size w1 w3 := hb2.grown hgrow2 hb2.size (by simp)
      have hg12 : w1.heap.size < w2.heap.size := hlt1
      clear hown1 hown2 hgrow2 hb2 hlt1
      go_wp2_with fail
      go_loopw [11] (fun i wr => ∃ k : Nat, k ≤ n ∧ i = .int .i64 k ∧ Row w1.heap.size wr w1.heap.size n k (pA l) ∧ Row w1.heap.size wr w2.heap.size n k (pB l d) ∧ Below w1.heap.size w1 wr) (fun i _ => n - (intOf i).toNat)
      case atStart => exact ⟨0, Nat.zero_le _, rfl, RA, RB, hb3⟩
      case round =>
        clear RA RB hb3
        obtain ⟨k, hk, rfl, RA, RB, hbw⟩ := hrel
        by_cases hlt : k < n
        · obtain ⟨⟨ua, hua⟩, hfa⟩ := RA.old hlt
          obtain ⟨⟨ub, hub⟩, hfb⟩ := RB.old hlt
          have R1 := RA.setTwo RB hlt hg12
          clear RA RB
          go_wp2_with fail
          go_roundw
          case rel => exact ⟨k + 1, by omega, by go_num, R1.1, R1.2, (hbw.setCell (Nat.le_refl _) _).setCell (by exact Nat.le_of_lt hg12) _⟩
          case measure => simp [intOf]; omega
        · have hkn : n = k := by omega
          subst hkn
          go_wp2_with fail
          have hs4 := hs1.below hbw
          refine (lit9_full ao1 _ n c1 n ns (pA l) l r _ hs4 RA.II hbig).mono ?_
          rintro e w4 ⟨ga, rfl, hLa, hb4⟩
          go_wp2_with fail
          refine (lit9_full ao1 _ n c1 n ns (pB l d) (wrap64 (l + d)) (wrap64 (r + d)) _ (hs4.below hb4) (RB.II.below hb4) hbig).mono ?_
          rintro e w5 ⟨gb, rfl, hLb, hb5⟩
          have hLa5 := hLa.below hb5
          have hB5 : Below w'.heap.size w' w5 := hb1.trans ((hbw.trans ((hb4.trans (hb5.mono hb4.size)).mono hbw.size)).mono hb1.size)
          have e1 := shift_pos l d HD.out
          have e2 := shift_end r d HD.out
          have e3 := span_len l r
          clear RA RB hLa hs4 hs1 hb1 hbw hb4 hb5 hg12
          go_wp2_with fail
          refine (pos12 gb n ns _ _ _ _ hLb).mono ?_
          rintro e w6 ⟨rfl, rfl⟩
          go_wp2_with fail
          refine (pos12 ga n ns _ _ _ _ hLa5).mono ?_
          rintro e w6 ⟨rfl, rfl⟩
          go_wp2_with fail
          refine (end13 gb n ns _ _ _ _ hLb).mono ?_
          rintro e w6 ⟨rfl, rfl⟩
          go_wp2_with fail
          refine (end13 ga n ns _ _ _ _ hLa5).mono ?_
          rintro e w6 ⟨rfl, rfl⟩
          go_wp2_with fail
          refine (end13 ga n ns _ _ _ _ hLa5).mono ?_
          rintro e w6 ⟨rfl, rfl⟩
          go_wp2_with fail
          refine (pos12 ga n ns _ _ _ _ hLa5).mono ?_
          rintro e w6 ⟨rfl, rfl⟩
          go_wp2_with fail
          refine (count14 ga n ns _ _ _ _ hLa5).mono ?_
          rintro e w6 ⟨rfl, rfl⟩
          go_wp2_with fail
          refine (count14 gb n ns _ _ _ _ hLb).mono ?_
          rintro e w6 ⟨rfl, rfl⟩
          go_wp2_with fail
          clear e1 e2 e3
          go_loop [14] (fun i => ∃ k : Nat, k ≤ n ∧ i = .int .i64 k) (fun i => n - (intOf i).toNat)
          case atStart => exact ⟨0, Nat.zero_le _, rfl⟩
          case round =>
            obtain ⟨k, hk, rfl⟩ := hrel
            by_cases hlt : k < n
            · have e4 := shift_elem l d k HD.out
              go_wp2_with fail
              refine (pos15 gb n k ns _ _ _ _ hLb hlt hbig).mono ?_
              rintro e w7 ⟨rfl, rfl⟩
              go_wp2_with fail
              refine (pos15 ga n k ns _ _ _ _ hLa5 hlt hbig).mono ?_
              rintro e w7 ⟨rfl, rfl⟩
              go_wp2_with fail
              go_round
              case rel => exact ⟨k + 1, by omega, by go_num⟩
              case measure => simp [intOf]; omega
            · have hjl : (joined ns n).length ≤ 4194304 := by have := joined_le ns n; omega
              have HJ : Hid ((joined ns n).length ≤ 4194304) := hjl
              clear hjl
              go_wp2_with fail
              refine (str10 joinSaid gb n ns _ _ _ _ hLb hbig HJ.out).mono ?_
              rintro e w7 ⟨rfl, hb7⟩
              go_wp2_with fail
              refine (str10 joinSaid ga n ns _ _ _ _ (hLa5.below hb7) hbig HJ.out).mono ?_
              rintro e w8 ⟨rfl, hb8⟩
              go_wp2_with fail
              go_ret
              exact ⟨rfl, hB5.trans ((hb7.trans (hb8.mono hb7.size)).mono hB5.size)⟩
    · go_wp2_with fail
      go_ret
      exact ⟨rfl, Below.refl _ _⟩
  · go_wp2_with fail
    go_ret
    exact ⟨rfl, Below.refl _ _⟩
end Go.Proofs.Yoeaqw
