/-
  ZZArrayLitOfIdents (function 9): the literal in memory, and what is said of it.
-/
import Derived.Test.YoeaqwKit
namespace Go.Proofs.Yoeaqw
open Go.RowKit

theorem Eaqg.info43 : (Eaqg.prog.info? 43).map (fun i => (i.zero, i.size, i.bytes)) = some (some .nilIface, 1, 16) := by kernel_rfl

/-- A slice of m ints at 'ao'. -/
def II (w : World) (ao : Option Addr) (m : Nat) (ps : Nat → Int) : Prop :=
  m = 0 ∨ ∃ b off, ao = some ⟨b, off, none⟩ ∧ b < w.heap.size ∧ ∀ j, j < m → w.cell? ⟨b, off + j, none⟩ = some (.int .i64 (ps j))

theorem II.below {w w' : World} {ao : Option Addr} {n : Nat} {ps : Nat → Int} (h : II w ao n ps) (hb : Below w.heap.size w w') : II w' ao n ps := by
  rcases h with h | ⟨b, off, rfl, hbl, hc⟩
  · exact .inl h
  · exact .inr ⟨b, off, rfl, Nat.lt_of_lt_of_le hbl hb.size, fun j hj => (hb.cell (p := ⟨b, off + j, none⟩) hbl).trans (hc j hj)⟩

/-- An *Ident at block b, as an Expr. -/
def idAt (b : Nat) : Value := .iface 37 (.pointer (some ⟨b, 0, none⟩))
/-- The block of an Ident. -/
def idObj (s : ByteArray) (p : Int) : Obj := .cells #[.string s, .int .i64 p] 39
/-- The position that element i gets. -/
def posAt (m : Nat) (ps : Nat → Int) (i : Nat) : Int := if i < m then ps i else 0

/-- What the loop holds after k rounds: a row of k interface values, each leading to its own Ident. -/
def Els (B : Nat) (w : World) (v : Value) (k : Nat) (ns : Nat → ByteArray) (qs : Nat → Int) : Prop :=
  ∃ bs : Nat → Nat, w.ownsRow B 43 1 v k ((List.range k).map fun i => idAt (bs i)) ∧ ∀ j, j < k → w.heap[bs j]? = some (idObj (ns j) (qs j))

theorem Els.nil (B : Nat) (w : World) (ns : Nat → ByteArray) (qs : Nat → Int) : Els B w (.slice none 0 0) 0 ns qs :=
  ⟨fun _ => 0, World.ownsRow_nil _ _ _ _, fun j hj => by omega⟩

theorem owns_shape {w : World} {B e n : Nat} {v : Value} {xs : List Value} (h : w.ownsRow B e 1 v n xs) : ∃ ae ce, v = .slice ae n ce := by
  rcases h.2 with ⟨rfl, rfl⟩ | ⟨g, cap, cur, rfl, _⟩
  · exact ⟨_, _, rfl⟩
  · exact ⟨_, _, rfl⟩

theorem lt_of_heap {w : World} {b : Nat} {o : Obj} (h : w.heap[b]? = some o) : b < w.heap.size := (Array.getElem?_eq_some_iff.1 h).1

theorem Els.step {B k : Nat} {wr w1 : World} {v v' : Value} {ns : Nat → ByteArray} {qs : Nat → Int} {bs : Nat → Nat} {s : ByteArray} {p : Int} {o : Obj}
    (hown : wr.ownsRow B 43 1 v k ((List.range k).map fun i => idAt (bs i))) (hids : ∀ j, j < k → wr.heap[bs j]? = some (idObj (ns j) (qs j)))
    (hown' : w1.ownsRow B 43 1 v' (k + 1) (((List.range k).map fun i => idAt (bs i)) ++ [idAt wr.heap.size])) (hgrow : ((wr.alloc (idObj s p)).alloc o).grownBy w1 v.ownBlock) (hs : s = ns k) (hp : p = qs k) :
    Els B w1 v' (k + 1) ns qs := by
  subst hs hp
  have hne : ∀ j, j < k → bs j < wr.heap.size := fun j hj => lt_of_heap (hids j hj)
  refine ⟨fun j => if j = k then wr.heap.size else bs j, ?_, ?_⟩
  · have e : (List.range (k + 1)).map (fun i => idAt (if i = k then wr.heap.size else bs i)) = ((List.range k).map fun i => idAt (bs i)) ++ [idAt wr.heap.size] := by
      rw [List.range_succ, List.map_append]
      congr 1
      · exact List.map_congr_left fun i hi => by rw [if_neg (by have := List.mem_range.1 hi; omega)]
      · simp
    rw [e]; exact hown'
  · intro j hj
    by_cases e : j = k
    · subst e
      simp only [if_true]
      rw [hgrow.block wr.heap.size (by simp; omega) (fun h => by have := (hown.lt _ h.symm).2; omega)]
      rw [Below.heap_alloc _ _ _ (by simp)]
      exact heap_alloc_new wr _
    · have hjk : j < k := by omega
      simp only [if_neg e]
      rw [hgrow.block (bs j) (by have := hne j hjk; simp; omega) ?_, Below.heap_alloc _ _ _ (by have := hne j hjk; simp; omega), Below.heap_alloc _ _ _ (hne j hjk)]
      · exact hids j hjk
      · intro h
        rcases hown.2 with ⟨rfl, _⟩ | ⟨g, cap, cur, rfl, _, hg, _⟩
        · simp [Value.ownBlock] at h
        · simp only [Value.ownBlock, Option.some.injEq] at h
          have := hids j hjk
          rw [h, hg] at this
          simp [idObj] at this

theorem Els.alloc {B k : Nat} {w : World} {v : Value} {ns : Nat → ByteArray} {qs : Nat → Int} (h : Els B w v k ns qs) (o : Obj) : Els B (w.alloc o) v k ns qs := by
  obtain ⟨bs, hown, hids⟩ := h
  exact ⟨bs, hown.alloc o, fun j hj => (Below.heap_alloc _ _ _ (lt_of_heap (hids j hj))).trans (hids j hj)⟩

set_option maxHeartbeats 400000 in
theorem lit9_loop (ao ap : Option Addr) (n cap m cp : Nat) (ns : Nat → ByteArray) (ps : Nat → Int) (l r : Int) (w : World) (h : SS w ao n ns) (hp : II w ap m ps) (hn : n ≤ 65536) (_hm : m ≤ 65536) :
    Calls Eaqg.prog 9 #[.slice ao n cap, .slice ap m cp, .int .i64 l, .int .i64 r] w fun e w' =>
      ∃ g ae ce, e = .returned (.pointer (some ⟨g, 0, none⟩)) ∧ w'.heap[g]? = some (.cells #[.slice ae n ce, .int .i64 l, .int .i64 r] 41) ∧ Els w.heap.size w' (.slice ae n ce) n ns (posAt m ps) ∧ Below w.heap.size w w' := by
  obtain ⟨i0, hi, hz0, hz1, hz2⟩ := info_parts Eaqg.info43
  go_enter Eaqg.func9, Eaqg.ntmps9
  go_wp2
  go_loopw [9, 10] (fun v i wr => ∃ (k : Nat) (ae : Option Addr) (ce : Nat), k ≤ n ∧ i = .int .i64 k ∧ v = .slice ae k ce ∧ Els w.heap.size wr (.slice ae k ce) k ns (posAt m ps) ∧ Below w.heap.size w wr) (fun _ i _ => n - (intOf i).toNat)
  case atStart => exact ⟨0, _, _, Nat.zero_le _, rfl, rfl, Els.nil _ _ _ _, Below.refl _ _⟩
  case round =>
    obtain ⟨k, ae, ce, hk, rfl, rfl, ⟨bs, hown, hids⟩, hbw⟩ := hrel
    have HI : Hid (∀ j, j < k → wr.heap[bs j]? = some (idObj (ns j) (posAt m ps j))) := hids
    clear hids
    by_cases hlt : k < n
    · rcases h with h0 | ⟨b, off, rfl, hb, hc⟩
      · omega
      · have hck : wr.cell? ⟨b, off + k, none⟩ = some (.string (ns k)) := (hbw.cell (p := ⟨b, off + k, none⟩) hb).trans (hc k hlt)
        have hbs := hbw.size
        clear hc
        by_cases hkm : k < m
        · rcases hp with h0 | ⟨bp, offp, rfl, hbp, hcp⟩
          · omega
          · have hcpk : wr.cell? ⟨bp, offp + k, none⟩ = some (.int .i64 (ps k)) := (hbw.cell (p := ⟨bp, offp + k, none⟩) hbp).trans (hcp k hkm)
            clear hcp
            go_wp2_with (at_builtin; refine wpList_append_own _ rfl _ _ 36 rfl w.heap.size 43 i0 .nilIface 1 16 Eaqg.underlying36 hi hz0 hz1 hz2 rfl (by decide) _ _ _ rfl ((hown.alloc _).alloc _) ⟨wr.heap.size + 1, 0, none⟩ 1 1 [idAt wr.heap.size] rfl rfl ?c1 ?c2 ?c3 ?c4 ?c5 ?_)
            case c1 =>
              intro j u hj
              match j, hj with
              | 0, hj => simp at hj; subst hj; simp [Addr.add, idAt]
            case c2 => intro u hu; simp at hu; subst hu; rfl
            case c3 => unfold maxLen; omega
            case c4 => omega
            case c5 => simp; omega
            · intro v' w1 hown' hgrow _
              obtain ⟨ae', ce', hv⟩ := owns_shape hown'
              have hb' : Below w.heap.size w w1 := ((hbw.alloc hbs _).alloc (by simp; omega) _).grown hgrow (by simp; omega) (fun q hq => (hown.lt q hq).1)
              have R := Els.step hown HI.out hown' hgrow rfl (by simp [posAt, hkm])
              clear hown' hgrow hown hck hcpk HI hbw
              rw [hv] at R ⊢
              go_wp2
              go_roundw
              case rel => exact ⟨k + 1, ae', ce', by omega, by go_num, rfl, R, hb'⟩
              case measure => simp [intOf]; omega
        · go_wp2_with (at_builtin; refine wpList_append_own _ rfl _ _ 36 rfl w.heap.size 43 i0 .nilIface 1 16 Eaqg.underlying36 hi hz0 hz1 hz2 rfl (by decide) _ _ _ rfl ((hown.alloc _).alloc _) ⟨wr.heap.size + 1, 0, none⟩ 1 1 [idAt wr.heap.size] rfl rfl ?d1 ?d2 ?d3 ?d4 ?d5 ?_)
          case d1 =>
            intro j u hj
            match j, hj with
            | 0, hj => simp at hj; subst hj; simp [Addr.add, idAt]
          case d2 => intro u hu; simp at hu; subst hu; rfl
          case d3 => unfold maxLen; omega
          case d4 => omega
          case d5 => simp; omega
          · intro v' w1 hown' hgrow _
            obtain ⟨ae', ce', hv⟩ := owns_shape hown'
            have hb' : Below w.heap.size w w1 := ((hbw.alloc hbs _).alloc (by simp; omega) _).grown hgrow (by simp; omega) (fun q hq => (hown.lt q hq).1)
            have R := Els.step hown HI.out hown' hgrow rfl (by simp [posAt, hkm])
            clear hown' hgrow hown hck HI hbw
            rw [hv] at R ⊢
            go_wp2
            go_roundw
            case rel => exact ⟨k + 1, ae', ce', by omega, by go_num, rfl, R, hb'⟩
            case measure => simp [intOf]; omega
    · have hbs := hbw.size
      have hkn : k = n := by omega
      clear h hp
      go_wp2
      go_ret
      subst hkn
      exact ⟨_, ae, ce, rfl, heap_alloc_new _ _, Els.alloc ⟨bs, hown, HI.out⟩ _, hbw.alloc hbs _⟩

/-- THE LITERAL at block g: its three cells; n elements, element j an *Ident of the name 'ns j' at the position 'qs j'. -/
def LitAt (w : World) (g n : Nat) (ns : Nat → ByteArray) (qs : Nat → Int) (l r : Int) : Prop :=
  ∃ (ae : Option Addr) (ce : Nat) (bs : Nat → Nat), g < w.heap.size ∧ w.cell? ⟨g, 0, none⟩ = some (.slice ae n ce) ∧ w.cell? ⟨g, 1, none⟩ = some (.int .i64 l) ∧ w.cell? ⟨g, 2, none⟩ = some (.int .i64 r) ∧
    (n = 0 ∨ ∃ b off, ae = some ⟨b, off, none⟩ ∧ b < w.heap.size ∧ ∀ j, j < n → w.cell? ⟨b, off + j, none⟩ = some (idAt (bs j))) ∧
    ∀ j, j < n → bs j < w.heap.size ∧ w.cell? ⟨bs j, 0, none⟩ = some (.string (ns j)) ∧ w.cell? ⟨bs j, 1, none⟩ = some (.int .i64 (qs j))

theorem LitAt.below {w w' : World} {g n : Nat} {ns : Nat → ByteArray} {qs : Nat → Int} {l r : Int} (h : LitAt w g n ns qs l r) (hb : Below w.heap.size w w') : LitAt w' g n ns qs l r := by
  obtain ⟨ae, ce, bs, hg, h0, h1, h2, he, hi⟩ := h
  refine ⟨ae, ce, bs, Nat.lt_of_lt_of_le hg hb.size, (hb.cell (p := ⟨g, 0, none⟩) hg).trans h0, (hb.cell (p := ⟨g, 1, none⟩) hg).trans h1, (hb.cell (p := ⟨g, 2, none⟩) hg).trans h2, ?_, ?_⟩
  · rcases he with h | ⟨b, off, rfl, hbl, hc⟩
    · exact .inl h
    · exact .inr ⟨b, off, rfl, Nat.lt_of_lt_of_le hbl hb.size, fun j hj => (hb.cell (p := ⟨b, off + j, none⟩) hbl).trans (hc j hj)⟩
  · intro j hj
    obtain ⟨a, b, c⟩ := hi j hj
    exact ⟨Nat.lt_of_lt_of_le a hb.size, (hb.cell (p := ⟨bs j, 0, none⟩) a).trans b, (hb.cell (p := ⟨bs j, 1, none⟩) a).trans c⟩

theorem cell_of_obj {w : World} {b o : Nat} {cs : Array Value} {t : TypeId} {mk : Nat × Nat} (h : w.heap[b]? = some (.cells cs t mk)) : w.cell? ⟨b, o, none⟩ = cs[o]? := cell_of_row w b o cs t mk h

theorem LitAt.of_els {B g n ce : Nat} {w : World} {ae : Option Addr} {ns : Nat → ByteArray} {qs : Nat → Int} {l r : Int}
    (hg : w.heap[g]? = some (.cells #[.slice ae n ce, .int .i64 l, .int .i64 r] 41)) (h : Els B w (.slice ae n ce) n ns qs) : LitAt w g n ns qs l r := by
  obtain ⟨bs, hown, hids⟩ := h
  refine ⟨ae, ce, bs, lt_of_heap hg, by rw [cell_of_obj hg]; rfl, by rw [cell_of_obj hg]; rfl, by rw [cell_of_obj hg]; rfl, ?_, ?_⟩
  · have hown0 := hown
    rcases hown.2 with ⟨h, h0⟩ | ⟨b, cap, cur, hv, _, hb, _⟩
    · exact .inl h0
    · simp only [Value.slice.injEq, true_and] at hv
      obtain ⟨rfl, rfl⟩ := hv
      refine .inr ⟨b, 0, rfl, lt_of_heap hb, fun j hj => ?_⟩
      rw [Nat.zero_add, hown0.cellAt j (by omega), List.getElem?_map, List.getElem?_range hj]
      rfl
  · intro j hj
    have := hids j hj
    exact ⟨lt_of_heap this, by rw [cell_of_obj this]; rfl, by rw [cell_of_obj this]; rfl⟩

/-- THE CONTRACT of ZZArrayLitOfIdents. -/
theorem lit9 (ao ap : Option Addr) (n cap m cp : Nat) (ns : Nat → ByteArray) (ps : Nat → Int) (l r : Int) (w : World) (h : SS w ao n ns) (hp : II w ap m ps) (hn : n ≤ 65536) (_hm : m ≤ 65536) :
    Calls Eaqg.prog 9 #[.slice ao n cap, .slice ap m cp, .int .i64 l, .int .i64 r] w fun e w' =>
      ∃ g, e = .returned (.pointer (some ⟨g, 0, none⟩)) ∧ LitAt w' g n ns (posAt m ps) l r ∧ Below w.heap.size w w' := by
  refine (lit9_loop ao ap n cap m cp ns ps l r w h hp hn _hm).mono fun e w' ⟨g, ae, ce, he, hg, hE, hb⟩ => ?_
  exact ⟨g, he, LitAt.of_els hg hE, hb⟩
end Go.Proofs.Yoeaqw
