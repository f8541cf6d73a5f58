/-
  FnArrayLitStringSplitsBack (function 3): the walk.
-/
import Derived.Test.YoeaqwBytes
import Derived.Test.YoeaqwClone
import Derived.Test.YoeaqwShelf
import Derived.Deep.QuietTactic
import Derived.BigQuiet
namespace Go.Proofs.Yoeaqw
open Go.RowKit

/-- The first k names: none is empty, none holds a comma. -/
def Good (ns : Nat → ByteArray) (k : Nat) : Prop := ∀ i, i < k → 0 < (ns i).size ∧ ∀ t (h : t < (ns i).size), (ns i)[t].toNat ≠ 44

/-- The printed text and what lies between its brackets, by names of their own. -/
theorem txt_facts (ns : Nat → ByteArray) (n : Nat) : ∃ S I : ByteArray, txt ns n = S ∧ S.extract 1 (S.size - 1) = I ∧ I.size + 2 ≤ S.size ∧ S.size ≤ I.size + 2 ∧ I.size ≤ tot ns n + 2 * n ∧ (∀ h h', (S[0]'h).toNat = 91 ∧ (S[S.size - 1]'h').toNat = 93) ∧ Hid (I.data.toList = joined ns n) := by
  have e := txt_inner ns n
  have z := txt_size ns n
  refine ⟨_, _, rfl, rfl, ?_, ?_, ?_, ?_, e⟩
  · rw [← size_list ((txt ns n).extract 1 _), e]; omega
  · rw [← size_list ((txt ns n).extract 1 _), e]; omega
  · rw [← size_list ((txt ns n).extract 1 _), e]; exact joined_le ns n
  · intro h h'
    rw [txt_first ns n h, txt_last ns n h']
    decide

theorem in_pos {ns : Nat → ByteArray} {n k : Nat} {I : ByteArray} (hI : I.data.toList = joined ns n) (hg : Good ns k) (hk : n ≤ k) (hn : 0 < n) : 0 < I.size := by
  have h1 := (in_size hI 0 hn).1
  have h2 := (hg 0 (by omega)).1
  omega

/-- WHERE THE SPLIT STANDS: m names are cut off, name m begins at st and j lies in it or right behind it; or all is done. -/
def At (ns : Nat → ByteArray) (n : Nat) (I : ByteArray) (m st j : Nat) : Prop :=
  (m < n ∧ st = offs ns m ∧ st ≤ j ∧ j ≤ st + (ns m).size) ∨ (m = n ∧ j = I.size + 1)

theorem At.start {ns : Nat → ByteArray} {n : Nat} {I : ByteArray} (h : 0 < n) : Hid (At ns n I 0 0 0) := .inl ⟨h, rfl, Nat.le_refl _, Nat.zero_le _⟩

theorem bool_ne {c : UInt8} {d : Nat} (h : c.toNat ≠ d) : ((c.toNat : Int) == (d : Int)) = false := by simp; omega

/-- ONE ROUND OF THE SPLIT, its four ways. -/
theorem At.cases {ns : Nat → ByteArray} {n k : Nat} {I : ByteArray} {m st j : Nat} (hI : I.data.toList = joined ns n) (hg : Good ns k) (hk : n ≤ k) (h : At ns n I m st j) :
    (j < I.size ∧ ((j : Int) == (I.size : Int)) = false ∧ (∀ h : j < I.size, (((I[j]'h).toNat : Int) == 44) = false) ∧ Hid (At ns n I m st (j + 1))) ∨
    ((((j : Int) == (I.size : Int)) = true ∧ I.size ≤ j ∧ j ≤ I.size) ∧ st ≤ j ∧ I.extract st j = ns m ∧ m + 1 = n ∧ Hid (At ns n I (m + 1) st (j + 1))) ∨
    (j + 1 < I.size ∧ st ≤ j ∧ I.extract st j = ns m ∧ ((j : Int) == (I.size : Int)) = false ∧ (∀ h : j < I.size, ((I[j]'h).toNat : Int) = 44) ∧ (∀ h : j + 1 < I.size, ((I[j + 1]'h).toNat : Int) = 32) ∧ Hid (At ns n I (m + 1) (j + 2) (j + 2) ∧ m + 1 < n)) ∨
    (n = m ∧ I.size < j) := by
  rcases h with ⟨hm, rfl, h1, h2⟩ | h
  · by_cases e : j < offs ns m + (ns m).size
    · left
      have hs := (in_size hI m hm).1
      obtain ⟨t, rfl⟩ : ∃ t, j = offs ns m + t := ⟨j - offs ns m, by omega⟩
      refine ⟨by omega, by simp; omega, fun h => ?_, .inl ⟨hm, rfl, by omega, by omega⟩⟩
      rw [in_byte hI m hm t (by omega) h]
      have := (hg m (by omega)).2 t (by omega)
      simp; omega
    · right
      have hj : j = offs ns m + (ns m).size := by omega
      subst hj
      have hx := in_extract hI m hm
      by_cases el : m + 1 = n
      · left
        have := in_last hI m el
        exact ⟨⟨by simp; omega, by omega, by omega⟩, by omega, hx, el, .inr ⟨el, by omega⟩⟩
      · right; left
        have hs := (in_size hI m hm).2 (by omega)
        refine ⟨by omega, by omega, hx, by simp; omega, fun h => by rw [in_comma hI m (by omega) h]; decide, fun h => by rw [in_blank hI m (by omega) h]; decide, .inl ⟨by omega, by rw [offs_succ], by omega, by omega⟩, by omega⟩
  · right; right; right; exact ⟨h.1.symm, by omega⟩

set_option maxHeartbeats 1000000 in
set_option maxRecDepth 100000 in
theorem split3 (ao : Option Addr) (n cap : Nat) (ns : Nat → ByteArray) (w : World) (h : SS w ao n ns) (h0 : ao = none → n = 0) (hn : n ≤ 9223372036854775807) :
    Calls Eaqg.prog 3 #[.slice ao n cap] w fun e w' => e = .returned (.bool true) ∧ Below w.heap.size w w' := by
  obtain ⟨i0, hi, hz0, hz1, hz2⟩ := info_parts Eaqg.info9
  go_enter Eaqg.func3, Eaqg.ntmps3
  go_wp2_with fail
  refine (bytes6 ao n cap ns w h hn).mono ?_
  rintro e w' ⟨⟨r, rfl⟩, rfl⟩
  cases r
  · go_wp2_with fail
    go_ret
    exact ⟨rfl, Below.refl _ _⟩
  by_cases hbig : n ≤ 65536
  · go_wp2_with fail
    refine (bytes7 ao n cap ns _ h hbig).mono ?_
    rintro e w' ⟨⟨r, rfl, hr⟩, rfl⟩
    by_cases hr1 : r ≤ 1048576
    · have htot := hr hr1
      clear hr
      go_wp2_with fail
      go_loop [3] (fun i => ∃ k : Nat, k ≤ n ∧ i = .int .i64 k ∧ Good ns k) (fun i => n - (intOf i).toNat)
      case atStart => exact ⟨0, Nat.zero_le _, rfl, fun i hi => by omega⟩
      case round =>
        obtain ⟨k, hk, rfl, hgood⟩ := hrel
        have HG : Hid (Good ns k) := hgood
        clear hgood
        by_cases hlt : k < n
        · obtain ⟨b, off, hao, hb, hc⟩ : ∃ b off, ao = some ⟨b, off, none⟩ ∧ b < w'.heap.size ∧ ∀ j, j < n → w'.cell? ⟨b, off + j, none⟩ = some (.string (ns j)) := by
            rcases h with h | h
            · omega
            · exact h
          subst hao
          have hck := hc k hlt
          have hsk : (ns k).size ≤ 1048576 := by have := tot_mono ns (show k + 1 ≤ n by omega); rw [tot_succ] at this; omega
          clear hc h
          by_cases hz : (ns k).size = 0
          · have hz' : (((ns k).size : Int) == 0) = true := by simp [hz]
            clear hz
            go_wp2_with fail
            go_ret
            exact ⟨rfl, Below.refl _ _⟩
          · have hz' : (((ns k).size : Int) == 0) = false := by simp [hz]
            go_wp2_with fail
            go_loop [4] (fun j => ∃ t : Nat, t ≤ (ns k).size ∧ j = .int .i64 t ∧ Hid (∀ u (hu : u < (ns k).size), u < t → (ns k)[u].toNat ≠ 44)) (fun j => (ns k).size - (intOf j).toNat)
            case atStart => exact ⟨0, Nat.zero_le _, rfl, show ∀ u (hu : u < (ns k).size), u < 0 → (ns k)[u].toNat ≠ 44 from fun u hu h => by omega⟩
            case round =>
              obtain ⟨t, ht, rfl, HT⟩ := hrel
              by_cases htl : t < (ns k).size
              · by_cases hcm : (ns k)[t].toNat = 44
                · have hcm' : (((ns k)[t].toNat : Int) == 44) = true := by simp [hcm]
                  clear hcm
                  go_wp2_with fail
                  go_ret
                  exact ⟨rfl, Below.refl _ _⟩
                · have hcm' : (((ns k)[t].toNat : Int) == 44) = false := by simp; omega
                  have HC : Hid ((ns k)[t].toNat ≠ 44) := hcm
                  clear hcm
                  go_wp2_with fail
                  go_round
                  case rel =>
                    refine ⟨t + 1, by omega, by go_num, ?_⟩
                    show ∀ u (hu : u < (ns k).size), u < t + 1 → (ns k)[u].toNat ≠ 44
                    intro u hu hut
                    by_cases e : u = t
                    · subst e; exact HC.out
                    · exact HT.out u hu (by omega)
                  case measure => simp [intOf]; omega
              · go_wp2_with fail
                go_round
                case rel =>
                  refine ⟨k + 1, by omega, by go_num, ?_⟩
                  intro i hi
                  by_cases e : i = k
                  · subst e; exact ⟨by omega, fun u hu => HT.out u hu (by omega)⟩
                  · exact HG.out i (by omega)
                case measure => simp [intOf]; omega
        · go_wp2_with fail
          refine (clone8 ao n cap ns _ h hbig h0).mono ?_
          rintro e w1 ⟨ao1, c1, rfl, hs1, hb1⟩
          clear h h0
          go_wp2_with fail
          refine (lit9 ao1 none n c1 0 0 ns (fun _ => 0) 1 1 _ hs1 (.inl rfl) hbig (by omega)).mono ?_
          rintro e w2 ⟨g, rfl, hL, hb2⟩
          go_wp2_with fail
          refine (str10 joinSaid g n ns _ 1 1 _ hL hbig (by have := joined_le ns n; omega)).mono ?_
          rintro e w3 ⟨rfl, hb3⟩
          have hB : Below w'.heap.size w' w3 := (hb1.trans (hb2.mono hb1.size)).trans (hb3.mono (Nat.le_trans hb1.size hb2.size))
          have hs3 : SS w3 ao1 n ns := (hs1.below hb2).below hb3
          clear hb1 hb2 hb3 hs1 hL
          obtain ⟨S, I, hS, hI, hS1, hS2, hI1, hSI, HI⟩ := txt_facts ns n
          rw [hS]
          clear hS
          have hkn : n ≤ k := by omega
          clear hlt
          by_cases hz : n = 0
          · subst hz
            have hS0 : 0 < S.size := by omega
            have hSl : S.size - 1 < S.size := by omega
            have hI0 : I.size ≤ 0 := by have : tot ns 0 = 0 := rfl; omega
            have hq1 : ((S[0]'hS0).toNat : Int) = 91 := by rw [(hSI hS0 hSl).1]; rfl
            have hq2 : ((S[S.size - 1]'hSl).toNat : Int) = 93 := by rw [(hSI hS0 hSl).2]; rfl
            have hS2' : decide ((S.size : Int) < 2) = false := decide_eq_false (by omega)
            clear hSI HI HG
            go_wp2_with fail
            refine wp_loop_rounds 1 ?_
            rw [rounds_succ]
            go_wp2_with fail
            go_ret
            exact ⟨rfl, hB⟩
          · have hIp : 0 < I.size := in_pos HI.out HG.out (by omega) (by omega)
            have hS2' : decide ((S.size : Int) < 2) = false := decide_eq_false (by omega)
            have hS0 : 0 < S.size := by omega
            have hSl : S.size - 1 < S.size := by omega
            have hq1 : ((S[0]'hS0).toNat : Int) = 91 := by rw [(hSI hS0 hSl).1]; rfl
            have hq2 : ((S[S.size - 1]'hSl).toNat : Int) = 93 := by rw [(hSI hS0 hSl).2]; rfl
            have HZ : Hid (¬ n = 0) := hz
            clear hz hSI
            go_wp2_with fail
            clear hq1 hq2 hI hS1 hS2 hS2'
            go_loopw [8, 9, 10] (fun v st jv wr => ∃ (m st0 j : Nat) (ao2 : Option Addr) (c2 : Nat), m ≤ n ∧ j ≤ I.size + 1 ∧ v = .slice ao2 m c2 ∧ st = .int .i64 st0 ∧ jv = .int .i64 j ∧
                wr.ownsRow w3.heap.size 9 1 (.slice ao2 m c2) m ((List.range m).map fun i => .string (ns i)) ∧ Below w3.heap.size w3 wr ∧ Hid (At ns n I m st0 j))
              (fun _ _ jv _ => I.size + 2 - (intOf jv).toNat)
            case atStart => exact ⟨0, 0, 0, none, 0, Nat.zero_le _, Nat.zero_le _, rfl, rfl, rfl, World.ownsRow_nil _ _ _ _, Below.refl _ _, At.start (Nat.pos_of_ne_zero HZ.out)⟩
            case round =>
              obtain ⟨m, st0, j, ao2, c2, hm, hj, rfl, rfl, rfl, hown, hbw, HA⟩ := hrel
              have hbs := hbw.size
              rcases At.cases HI.out HG.out hkn HA.out with ⟨a1, a2, a3, HN⟩ | ⟨⟨a1, a1u, a1l⟩, a2, a3, a4, HN⟩ | ⟨a1, a2, a3, a4, a5, a6, HN⟩ | ⟨a1, a2⟩
              · -- inside a name
                have a3' := a3 a1
                clear a3
                go_wp2_with fail
                go_roundw
                case rel => exact ⟨m, st0, j + 1, ao2, c2, hm, by omega, rfl, rfl, by go_num, hown, hbw, HN⟩
                case measure => simp [intOf]; omega
              · -- behind the last name
                have a4' : m + 1 ≤ n := by omega
                clear a4
                go_wp2_with (at_builtin; refine wpList_append_own _ rfl _ _ 22 rfl w3.heap.size 9 i0 (.string ⟨#[]⟩) 1 16 Eaqg.underlying22 hi hz0 hz1 hz2 rfl (by decide) _ _ _ rfl (hown.alloc _) ⟨wr.heap.size, 0, none⟩ 1 1 [.string (ns m)] rfl rfl ?c1 ?c2 ?c3 ?c4 ?c5 ?_)
                case c1 =>
                  intro j u hj
                  match j, hj with
                  | 0, hj => simp at hj; subst hj; simp [Addr.add]
                case c2 => intro u hu; simp at hu; subst hu; rfl
                case c3 => unfold maxLen; omega
                case c4 => omega
                case c5 => simp; omega
                intro v' w4 hown' hgrow _
                obtain ⟨ao3, c3, hv⟩ := owns_shape hown'
                have hb' : Below w3.heap.size w3 w4 := (hbw.alloc hbs _).grown hgrow (by simp; omega) (fun q hq => (hown.lt q hq).1)
                rw [← strs_succ ns m] at hown'
                rw [hv] at hown' ⊢
                clear hgrow hown hbw hv
                go_wp2_with fail
                go_roundw
                case rel => exact ⟨m + 1, st0, j + 1, ao3, c3, a4', by omega, rfl, rfl, by go_num, hown', hb', HN⟩
                case measure => simp [intOf]; omega
              · -- at a comma
                have a5' := a5 (by omega)
                have a6' := a6 a1
                have a7' : decide (((I.size : Int) ≤ (j : Int) + 1)) = false := decide_eq_false (by omega)
                have hm1 : m + 1 < n := HN.out.2
                clear a5 a6
                go_wp2_with (at_builtin; refine wpList_append_own _ rfl _ _ 22 rfl w3.heap.size 9 i0 (.string ⟨#[]⟩) 1 16 Eaqg.underlying22 hi hz0 hz1 hz2 rfl (by decide) _ _ _ rfl (hown.alloc _) ⟨wr.heap.size, 0, none⟩ 1 1 [.string (ns m)] rfl rfl ?d1 ?d2 ?d3 ?d4 ?d5 ?_)
                case d1 =>
                  intro j u hj
                  match j, hj with
                  | 0, hj => simp at hj; subst hj; simp [Addr.add]
                case d2 => intro u hu; simp at hu; subst hu; rfl
                case d3 => unfold maxLen; omega
                case d4 => omega
                case d5 => simp; omega
                intro v' w4 hown' hgrow _
                obtain ⟨ao3, c3, hv⟩ := owns_shape hown'
                have hb' : Below w3.heap.size w3 w4 := (hbw.alloc hbs _).grown hgrow (by simp; omega) (fun q hq => (hown.lt q hq).1)
                rw [← strs_succ ns m] at hown'
                rw [hv] at hown' ⊢
                clear hgrow hown hbw hv
                go_wp2_with fail
                go_roundw
                case rel => exact ⟨m + 1, j + 2, j + 2, ao3, c3, by omega, by omega, rfl, by go_num, by go_num, hown', hb', HN.out.1⟩
                case measure => simp [intOf]; omega
              · -- behind the text
                subst a1
                obtain ⟨b1, o1, hao1, hbb1, hc1⟩ : ∃ b off, ao1 = some ⟨b, off, none⟩ ∧ b < w3.heap.size ∧ ∀ j, j < n → w3.cell? ⟨b, off + j, none⟩ = some (.string (ns j)) := by
                  rcases hs3 with h | h
                  · exact absurd h HZ.out
                  · exact h
                obtain ⟨b2, o2, hao2, hbb2, hc2⟩ : ∃ b off, ao2 = some ⟨b, off, none⟩ ∧ b < wr.heap.size ∧ ∀ j, j < n → wr.cell? ⟨b, off + j, none⟩ = some (.string (ns j)) := by
                  rcases (owns_SS hown).1 with h | h
                  · exact absurd h HZ.out
                  · exact h
                subst hao1 hao2
                have HC1 : Hid (∀ j, j < n → wr.cell? ⟨b1, o1 + j, none⟩ = some (.string (ns j))) := fun j hj => (hbw.cell (p := ⟨b1, o1 + j, none⟩) hbb1).trans (hc1 j hj)
                have HC2 : Hid (∀ j, j < n → wr.cell? ⟨b2, o2 + j, none⟩ = some (.string (ns j))) := hc2
                have hB4 : Below w'.heap.size w' wr := hB.trans (hbw.mono hB.size)
                clear hc1 hc2 hs3 hown hbw HA HI HG
                go_wp2_with fail
                go_loopw [11] (fun i wx => ∃ q : Nat, q ≤ n ∧ i = .int .i64 q ∧ ∃ nq, wx = wr.drewN nq) (fun i _ => n - (intOf i).toNat)
                case atStart => exact ⟨0, Nat.zero_le _, rfl, 0, rfl⟩
                case round =>
                  obtain ⟨q, hq, rfl, nq, hwx⟩ := hrel
                  subst hwx
                  by_cases hqn : q < n
                  · have g1 := HC1.out q hqn
                    have g2 := HC2.out q hqn
                    have hqi : (q : Int) < (n : Int) := by omega
                    go_wp2_with fail
                    go_quiet (fail)
                    go_wp2_with fail
                    go_roundw
                    case rel => exact ⟨q + 1, by omega, by go_num, _, rfl⟩
                    case measure => simp [intOf]; omega
                  · go_wp2_with fail
                    go_ret
                    exact ⟨rfl, below_drewN hB4 _⟩
    · go_wp2_with fail
      go_ret
      exact ⟨rfl, Below.refl _ _⟩
  · go_wp2_with fail
    go_ret
    exact ⟨rfl, Below.refl _ _⟩
end Go.Proofs.Yoeaqw
