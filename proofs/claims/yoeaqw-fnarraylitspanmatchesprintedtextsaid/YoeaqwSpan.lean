/-
  FnArrayLitSpanMatchesPrintedText (function 4): the walk.
-/
import Derived.Test.YoeaqwShift
import Derived.Deep.QuietTactic
import Derived.BigQuiet
namespace Go.Proofs.Yoeaqw
open Go.RowKit

/-- What lies ahead of the end of name k - 1, between the brackets. -/
def pq (ns : Nat → ByteArray) (k : Nat) : Nat := tot ns k + 2 * (k - 1)
/-- The position of name j, the text laid out from 'base' on. -/
def posF (base : Int) (ns : Nat → ByteArray) (j : Nat) : Int := base + 1 + offs ns j

theorem pq_joined (ns : Nat → ByteArray) (n : Nat) : (joined ns n).length = pq ns n := by
  cases n with
  | zero => rfl
  | succ n => rw [joined_length]; rfl

theorem pq_succ (ns : Nat → ByteArray) (k : Nat) : pq ns (k + 1) = offs ns k + (ns k).size := by
  unfold pq offs; rw [tot_succ]; omega

theorem offs_zero (ns : Nat → ByteArray) : offs ns 0 = pq ns 0 := rfl
theorem offs_pos (ns : Nat → ByteArray) (k : Nat) (h : 0 < k) : offs ns k = pq ns k + 2 := by unfold offs pq; omega

theorem pq_le (ns : Nat → ByteArray) {k n : Nat} (h : k ≤ n) : pq ns k ≤ tot ns n + 2 * n := by
  have := tot_mono ns h
  unfold pq; omega

theorem val_int {k : IntKind} {a b : Int} (h : a = b) : Value.int k a = .int k b := by rw [h]

/-- The printed text, by a name of its own: its length; where each name lies in it. -/
theorem txt_span (ns : Nat → ByteArray) (n : Nat) : ∃ S : ByteArray, txt ns n = S ∧ S.size ≤ pq ns n + 2 ∧ pq ns n + 2 ≤ S.size ∧ Hid (∀ k, k < n → S.extract (offs ns k + 1) (offs ns k + 1 + (ns k).size) = ns k ∧ offs ns k + 1 + (ns k).size + 1 ≤ S.size) := by
  have z := txt_size ns n
  rw [pq_joined] at z
  refine ⟨_, rfl, by omega, by omega, fun k hk => ?_⟩
  obtain ⟨p, t, hj, hl, _⟩ := joined_split ns n k hk
  have e : offs ns k = p.length := hl.symm
  constructor
  · apply ext_list
    rw [Lib.extract_data, txt_list, hj, e, List.drop_succ_cons, List.append_assoc, List.drop_left, show p.length + 1 + (ns k).size - (p.length + 1) = (ns k).data.toList.length by rw [size_list]; omega, List.append_assoc, List.take_left]
  · rw [txt_size, hj, e, List.length_append, List.length_append, size_list]
    omega

/-- A ROUND OF THE LAST LOOP: o: where the name begins; z: its length. -/
theorem span_round {ns : Nat → ByteArray} {n k : Nat} {S : ByteArray} {base : Int} {v u : Nat} (h : k < n)
    (hX : ∀ k, k < n → S.extract (offs ns k + 1) (offs ns k + 1 + (ns k).size) = ns k ∧ offs ns k + 1 + (ns k).size + 1 ≤ S.size) (hv : v = pq ns n) (hu : u = pq ns k) :
    ∃ o z : Nat, Hid (posF base ns k = base + 1 + o) ∧ Hid ((ns k).size = z ∧ o + z = pq ns (k + 1)) ∧ u ≤ o ∧ o + z ≤ v ∧ S.extract (o + 1) (o + 1 + z) = ns k ∧ o + 1 + z + 1 ≤ S.size := by
  refine ⟨offs ns k, (ns k).size, show posF base ns k = _ from rfl, ⟨rfl, (pq_succ ns k).symm⟩, ?_, ?_, (hX k h).1, (hX k h).2⟩
  · subst hu
    by_cases e : 0 < k
    · rw [offs_pos ns k e]; omega
    · obtain rfl : k = 0 := by omega
      exact Nat.le_of_eq rfl
  · rw [hv, ← pq_succ]
    have := tot_mono ns (show k + 1 ≤ n by omega)
    unfold pq; omega

set_option maxHeartbeats 1000000 in
set_option maxRecDepth 100000 in
theorem span4 (ao : Option Addr) (n cap : Nat) (ns : Nat → ByteArray) (base : Int) (w : World) (h : SS w ao n ns) (h0 : ao = none → n = 0) (hn : n ≤ 9223372036854775807) :
    Calls Eaqg.prog 4 #[.slice ao n cap, .int .i64 base] w fun e w' => e = .returned (.bool true) ∧ Below w.heap.size w w' := by
  obtain ⟨i0, hi, hz0, hz1, hz2⟩ := info_parts Eaqg.info3
  go_enter Eaqg.func4, Eaqg.ntmps4
  go_wp2_with fail
  refine (bytes11 ao n cap ns base w h hn).mono ?_
  rintro e w' ⟨⟨x, rfl⟩, rfl⟩
  cases x
  · go_wp2_with fail
    go_ret
    exact ⟨rfl, Below.refl _ _⟩
  by_cases hbig : n ≤ 65536
  · go_wp2_with fail
    refine (bytes7 ao n cap ns _ h hbig).mono ?_
    rintro e w' ⟨⟨q, rfl, hr⟩, rfl⟩
    by_cases hr1 : q ≤ 1048576
    · have htot := hr hr1
      clear hr
      by_cases hb1 : base < 1
      · have hd1 : decide (base < 1) = true := decide_eq_true hb1
        go_wp2_with fail
        go_ret
        exact ⟨rfl, Below.refl _ _⟩
      by_cases hb2 : 268435456 < base
      · have hd1 : decide (base < 1) = false := decide_eq_false hb1
        have hd2 : decide (268435456 < base) = true := decide_eq_true hb2
        go_wp2_with fail
        go_ret
        exact ⟨rfl, Below.refl _ _⟩
      have hd1 : decide (base < 1) = false := decide_eq_false hb1
      have hd2 : decide (268435456 < base) = false := decide_eq_false hb2
      go_wp2_with fail
      refine (clone8 ao n cap ns _ h hbig h0).mono ?_
      rintro e w1 ⟨ao1, c1, rfl, hs1, hbl1⟩
      clear h h0 hd1 hd2
      go_wp2_with (at_make; refine wpList_make_full _ rfl _ _ 30 rfl w1.heap.size 3 i0 (.int .i64 0) 1 Eaqg.underlying30 hi hz0 hz1 .i64 .i64 _ _ n rfl rfl rfl rfl (by rw [hz2]; omega) (by unfold maxLen; omega) (Nat.le_refl _) ?_)
      intro w2 hown1 hgrow1
      have RA : Row w1.heap.size w2 w1.heap.size n 0 (posF base ns) := ⟨_, hown1, fun j hj => by omega⟩
      have hbl2 : Below w1.heap.size w1 w2 := (Below.refl _ _).grown hgrow1 (Nat.le_refl _) (by simp)
      clear hgrow1 hown1
      go_wp2_with fail
      go_loopw [6, 7] (fun pv i wr => ∃ k v : Nat, k ≤ n ∧ i = .int .i64 k ∧ v ≤ 1310720 ∧ pv = .int .i64 (base + 1 + v) ∧ Row w1.heap.size wr w1.heap.size n k (posF base ns) ∧ Below w1.heap.size w1 wr ∧ Hid (v = pq ns k)) (fun _ i _ => n - (intOf i).toNat)
      case atStart => exact ⟨0, 0, Nat.zero_le _, rfl, by omega, by go_num, RA, hbl2, show 0 = pq ns 0 from rfl⟩
      case round =>
        clear RA hbl2
        obtain ⟨k, v, hk, rfl, hv, rfl, RA, hbw, HV⟩ := hrel
        by_cases hlt : k < n
        · obtain ⟨⟨ua, hua⟩, hfa⟩ := RA.old hlt
          obtain ⟨b1, o1, hao1, hbb1, hc1⟩ : ∃ b off, ao1 = some ⟨b, off, none⟩ ∧ b < w1.heap.size ∧ ∀ j, j < n → w1.cell? ⟨b, off + j, none⟩ = some (.string (ns j)) := by
            rcases hs1 with h | h
            · omega
            · exact h
          subst hao1
          have hck : wr.cell? ⟨b1, o1 + k, none⟩ = some (.string (ns k)) := (hbw.cell (p := ⟨b1, o1 + k, none⟩) hbb1).trans (hc1 k hlt)
          have hsz : (ns k).size ≤ 1048576 := by have := tot_mono ns (show k + 1 ≤ n by omega); rw [tot_succ] at this; omega
          have hnv : pq ns (k + 1) ≤ 1310720 := by have := pq_le ns (show k + 1 ≤ n by omega); omega
          clear hc1 hs1
          by_cases hk0 : 0 < k
          · go_wp2_with fail
            go_roundw
            case rel => exact ⟨k + 1, pq ns (k + 1), by omega, by go_num, hnv, val_int (by have := HV.out; rw [pq_succ, offs_pos ns k hk0]; omega), RA.set hlt (by have := HV.out; unfold posF; rw [offs_pos ns k hk0]; omega), hbw.setCell (Nat.le_refl _) _, show pq ns (k + 1) = pq ns (k + 1) from rfl⟩
            case measure => simp [intOf]; omega
          · have hoz : offs ns k = pq ns k := by obtain rfl : k = 0 := by omega
                                                 rfl
            have HO : Hid (offs ns k = pq ns k) := hoz
            clear hoz
            go_wp2_with fail
            go_roundw
            case rel => exact ⟨k + 1, pq ns (k + 1), by omega, by go_num, hnv, val_int (by have := HV.out; rw [pq_succ, HO.out]; omega), RA.set hlt (by have := HV.out; unfold posF; rw [HO.out]; omega), hbw.setCell (Nat.le_refl _) _, show pq ns (k + 1) = pq ns (k + 1) from rfl⟩
            case measure => simp [intOf]; omega
        · have hkn : n = k := by omega
          subst hkn
          go_wp2_with fail
          have hs4 := hs1.below hbw
          refine (lit9_full ao1 _ n c1 n ns (posF base ns) base (base + 1 + v) _ hs4 RA.II hbig).mono ?_
          rintro e w4 ⟨ga, rfl, hLa, hb4⟩
          have hs5 := hs4.below hb4
          have hB4 : Below w'.heap.size w' w4 := hbl1.trans ((hbw.trans (hb4.mono hbw.size)).mono hbl1.size)
          clear RA hs4 hs1 hbl1 hbw hb4
          go_wp2_with fail
          refine (pos12 ga n ns _ _ _ _ hLa).mono ?_
          rintro e w6 ⟨rfl, rfl⟩
          have he1 : wrap64 (base + 1 + (v : Int) + 1) = base + 1 + v + 1 := IntWalk.wrap64_in _ ⟨by omega, by omega⟩
          go_wp2_with fail
          refine (end13 ga n ns _ _ _ _ hLa).mono ?_
          rintro e w6 ⟨rfl, rfl⟩
          rw [he1]
          clear he1
          go_wp2_with fail
          refine (str10 joinSaid ga n ns _ _ _ _ hLa hbig (by have := joined_le ns n; omega)).mono ?_
          rintro e w7 ⟨rfl, hb7⟩
          have hL7 := hLa.below hb7
          have hs7 := hs5.below hb7
          have hB7 : Below w'.heap.size w' w7 := hB4.trans (hb7.mono hB4.size)
          clear hLa hs5 hB4 hb7
          obtain ⟨S, hS, hS1, hS2, HX⟩ := txt_span ns n
          rw [hS]
          clear hS
          have hvS1 : S.size ≤ v + 2 := by have := HV.out; omega
          have hvS2 : v + 2 ≤ S.size := by have := HV.out; omega
          clear hS1 hS2
          go_wp2_with fail
          refine (count14 ga n ns _ _ _ _ hL7).mono ?_
          rintro e w8 ⟨rfl, rfl⟩
          go_wp2_with fail
          clear hvS1 hvS2
          go_loopw [13, 14] (fun pv i wx => ∃ k u : Nat, k ≤ n ∧ i = .int .i64 k ∧ u ≤ v ∧ pv = .int .i64 (base + 1 + u) ∧ Hid (u = pq ns k) ∧ ∃ nq, wx = w8.drewN nq) (fun _ i _ => n - (intOf i).toNat)
          case atStart => exact ⟨0, 0, Nat.zero_le _, rfl, Nat.zero_le _, by go_num, show 0 = pq ns 0 from rfl, 0, rfl⟩
          case round =>
            obtain ⟨k, u, hk, rfl, hu, rfl, HU, nq, hwx⟩ := hrel
            subst hwx
            by_cases hlt : k < n
            · obtain ⟨b1, o1, hao1, hbb1, hc1⟩ : ∃ b off, ao1 = some ⟨b, off, none⟩ ∧ b < w8.heap.size ∧ ∀ j, j < n → w8.cell? ⟨b, off + j, none⟩ = some (.string (ns j)) := by
                rcases hs7 with h | h
                · omega
                · exact h
              subst hao1
              have hck := hc1 k hlt
              obtain ⟨o, z, HO, HZ, ho1, ho2, hx1, hx2⟩ := span_round (base := base) (v := v) (u := u) hlt HX.out HV.out HU.out
              have hP := pos15 ga n k ns (posF base ns) base (base + 1 + v) (w8.drewN nq) (hL7.below (below_drewN (Below.refl _ _) _)) hlt hbig
              have hE := fun m => end16 ga n k ns (posF base ns) base (base + 1 + v) (w8.drewN m) (hL7.below (below_drewN (Below.refl _ _) _)) hlt hbig
              clear hc1 hs7
              go_wp2_with fail
              refine hP.mono ?_
              rintro e w9 ⟨rfl, rfl⟩
              rw [HO.out]
              go_wp2_with fail
              refine (hE nq).mono ?_
              rintro e w9 ⟨rfl, m9, rfl⟩
              have hw9 : wrap64 (base + 1 + (o : Int) + (z : Int)) = base + 1 + o + z := IntWalk.wrap64_in _ ⟨by omega, by omega⟩
              rw [HO.out, HZ.out.1, hw9]
              clear hw9 hP hE
              go_wp2_with fail
              have hki : (k : Int) < (n : Int) := by omega
              have hx3 : S.extract (base + 1 + (o : Int) - base).toNat (base + 1 + (o : Int) + (z : Int) - base).toNat = ns k := by
                rw [show (base + 1 + (o : Int) - base).toNat = o + 1 by omega, show (base + 1 + (o : Int) + (z : Int) - base).toNat = o + 1 + z by omega]
                exact hx1
              go_quiet (fail)
              go_wp2_with fail
              go_roundw
              case rel => exact ⟨k + 1, o + z, by omega, by go_num, ho2, val_int (by omega), HZ.out.2, _, rfl⟩
              case measure => simp [intOf]; omega
            · go_wp2_with fail
              go_ret
              exact ⟨rfl, below_drewN hB7 _⟩
    · go_wp2_with fail
      go_ret
      exact ⟨rfl, Below.refl _ _⟩
  · go_wp2_with fail
    go_ret
    exact ⟨rfl, Below.refl _ _⟩
end Go.Proofs.Yoeaqw
