/-
  (*ArrayLit).String (function 10).
-/
import Derived.Test.YoeaqwElem
import Derived.Lib.Join
namespace Go.Proofs.Yoeaqw
open Go.RowKit

theorem Eaqg.info9' : (Eaqg.prog.info? 9).map (fun i => (i.zero, i.size, i.bytes)) = some (some (.string ⟨#[]⟩), 1, 16) := by kernel_rfl

/-- The names as lists of bytes. -/
def bl (ns : Nat → ByteArray) (n : Nat) : List (List UInt8) := (List.range n).map fun i => (ns i).data.toList
/-- What strings.Join makes of them. -/
def joined (ns : Nat → ByteArray) (n : Nat) : List UInt8 := Lib.join (bl ns n) [44, 32]

/-- What the literal prints as. -/
def txt (ns : Nat → ByteArray) (n : Nat) : ByteArray := ⟨([91] ++ joined ns n ++ [93]).toArray⟩

theorem txt_eq (ns : Nat → ByteArray) (n : Nat) : (⟨#[91]⟩ : ByteArray) ++ ⟨(joined ns n).toArray⟩ ++ ⟨#[93]⟩ = txt ns n := by
  apply ByteArray.ext
  simp [txt]

theorem ret_str {a b : ByteArray} (h : a = b) : Ending.returned (.string a) = .returned (.string b) := by rw [h]

/-- strings.Join at the separator of a comma and a blank. -/
def JoinSaid : Prop := ∀ (ao : Option Addr) (n c : Nat) (ns : Nat → ByteArray) (w : World), SS w ao n ns → n ≤ c ∨ n = 0 → n ≤ 65536 → (joined ns n).length ≤ 4194304 →
  Calls Eaqg.prog 18 #[.slice ao n c, .string ⟨#[44, 32]⟩] w fun e w' => e = .returned (.string ⟨(joined ns n).toArray⟩) ∧ Below w.heap.size w w'

theorem strs_succ (ns : Nat → ByteArray) (k : Nat) : (List.range (k + 1)).map (fun i => Value.string (ns i)) = (List.range k).map (fun i => Value.string (ns i)) ++ [Value.string (ns k)] := by
  rw [List.range_succ, List.map_append]; rfl

theorem owns_SS {w : World} {B k c : Nat} {ao : Option Addr} {ns : Nat → ByteArray} (h : w.ownsRow B 9 1 (.slice ao k c) k ((List.range k).map fun i => .string (ns i))) : SS w ao k ns ∧ (k ≤ c ∨ k = 0) := by
  have h' := h
  rcases h.2 with ⟨_, h0⟩ | ⟨b, cap, cur, hv, _, hb, hc, _⟩
  · exact ⟨.inl h0, .inr h0⟩
  · simp only [Value.slice.injEq, true_and] at hv
    obtain ⟨rfl, rfl⟩ := hv
    refine ⟨.inr ⟨b, 0, rfl, lt_of_heap hb, fun j hj => ?_⟩, .inl hc⟩
    rw [Nat.zero_add, h'.cellAt j (by omega), List.getElem?_map, List.getElem?_range hj]
    rfl

set_option maxHeartbeats 400000 in
theorem str10 (J : JoinSaid) (g n : Nat) (ns : Nat → ByteArray) (qs : Nat → Int) (l r : Int) (w : World) (h : LitAt w g n ns qs l r) (hn : n ≤ 65536) (hlen : (joined ns n).length ≤ 4194304) :
    Calls Eaqg.prog 10 #[.pointer (some ⟨g, 0, none⟩)] w fun e w' => e = .returned (.string (txt ns n)) ∧ Below w.heap.size w w' := by
  obtain ⟨i0, hi, hz0, hz1, hz2⟩ := info_parts Eaqg.info9'
  obtain ⟨ae, ce, bs, hg, h0, h1, h2, he, hids⟩ := h
  have HJ : Hid ((joined ns n).length ≤ 4194304) := hlen
  clear hlen
  go_enter Eaqg.func10, Eaqg.ntmps10
  go_wp2
  go_loopw [3, 11] (fun v i wr => ∃ (k : Nat) (ao : Option Addr) (c : Nat), k ≤ n ∧ i = .int .i64 k ∧ v = .slice ao k c ∧ wr.ownsRow w.heap.size 9 1 (.slice ao k c) k ((List.range k).map fun i => .string (ns i)) ∧ Below w.heap.size w wr) (fun _ i _ => n - (intOf i).toNat)
  case atStart => exact ⟨0, none, 0, Nat.zero_le _, rfl, rfl, World.ownsRow_nil _ _ _ _, Below.refl _ _⟩
  case round =>
    obtain ⟨k, ao, c, hk, rfl, rfl, hown, hbw⟩ := hrel
    have hbs := hbw.size
    by_cases hlt : k < n
    · rcases he with he | ⟨b, off, rfl, hb, hc⟩
      · omega
      · have hck : wr.cell? ⟨b, off + k, none⟩ = some (.iface 37 (.pointer (some ⟨bs k, 0, none⟩))) := (hbw.cell (p := ⟨b, off + k, none⟩) hb).trans (hc k hlt)
        obtain ⟨c0, c1, _⟩ := hids k hlt
        have hc1 : wr.cell? ⟨bs k, 0, none⟩ = some (.string (ns k)) := (hbw.cell (p := ⟨bs k, 0, none⟩) c0).trans c1
        have hme := meth_string
        clear hc hids
        go_wp2_with (first | (at_builtin; refine wpList_append_own _ rfl _ _ 22 rfl w.heap.size 9 i0 (.string ⟨#[]⟩) 1 16 Eaqg.underlying22 hi hz0 hz1 hz2 rfl (by decide) _ _ _ rfl (hown.alloc _) ⟨wr.heap.size, 0, none⟩ 1 1 [.string (ns k)] rfl rfl ?c1 ?c2 ?c3 ?c4 ?c5 ?_) | go_in)
        case c1 =>
          intro j u hj
          match j, hj with
          | 0, hj => simp at hj; subst hj; simp [Addr.add]
        case c2 => intro u hu; simp at hu; subst hu; rfl
        case c3 => unfold maxLen; omega
        case c4 => omega
        case c5 => simp; omega
        · intro v' w1 hown' hgrow _
          obtain ⟨ao', c', hv⟩ := owns_shape hown'
          have hb' : Below w.heap.size w w1 := (hbw.alloc hbs _).grown hgrow (by simp; omega) (fun q hq => (hown.lt q hq).1)
          rw [← strs_succ ns k] at hown'
          clear hgrow hown hck hc1 c1 hbw hme
          rw [hv] at hown' ⊢
          go_wp2
          go_roundw
          case rel => exact ⟨k + 1, ao', c', by omega, by go_num, rfl, hown', hb'⟩
          case measure => simp [intOf]; omega
    · go_wp2_with fail
      have hkn : k = n := by omega
      refine (J ao k c ns wr (owns_SS hown).1 (owns_SS hown).2 (by omega) (by rw [hkn]; exact HJ.out)).mono ?_
      rintro e w1 ⟨rfl, hb1⟩
      clear h0 h1 h2 he hids
      have hl := HJ.out
      go_wp2
      go_ret
      exact ⟨ret_str (txt_eq ns n), hbw.trans (hb1.mono hbs)⟩
end Go.Proofs.Yoeaqw
