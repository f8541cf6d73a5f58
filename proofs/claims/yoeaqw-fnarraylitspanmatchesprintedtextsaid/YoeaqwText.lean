/-
  The printed text, as plain lists of bytes: where each name lies in it.
-/
import Derived.Test.YoeaqwStr
namespace Go.Proofs.Yoeaqw
open Go.RowKit

theorem join_snoc (y : List UInt8) (r : List (List UInt8)) (x sep : List UInt8) : Lib.join (y :: r ++ [x]) sep = Lib.join (y :: r) sep ++ (sep ++ x) := by
  rw [List.cons_append, Lib.join_cons, Lib.join_cons]
  simp [Lib.joinTail]

theorem bl_succ (ns : Nat → ByteArray) (n : Nat) : bl ns (n + 1) = bl ns n ++ [(ns n).data.toList] := by
  unfold bl
  rw [List.range_succ, List.map_append]; rfl

theorem bl_cons (ns : Nat → ByteArray) (n : Nat) : bl ns (n + 1) = (ns 0).data.toList :: (List.range n).map (fun i => (ns (i + 1)).data.toList) := by
  unfold bl
  rw [List.range_succ_eq_map]
  simp

theorem joined_zero (ns : Nat → ByteArray) : joined ns 0 = [] := rfl

theorem joined_one (ns : Nat → ByteArray) : joined ns 1 = (ns 0).data.toList := by
  unfold joined
  rw [bl_cons]
  exact Lib.join_one _ _

theorem joined_succ (ns : Nat → ByteArray) (n : Nat) : joined ns (n + 2) = joined ns (n + 1) ++ ([44, 32] ++ (ns (n + 1)).data.toList) := by
  unfold joined
  rw [bl_succ ns (n + 1), bl_cons ns n]
  exact join_snoc _ _ _ _

theorem size_list (s : ByteArray) : s.data.toList.length = s.size := by cases s; simp; rfl

/-- Ahead of name i lie the earlier names and two bytes for each. -/
theorem joined_at (ns : Nat → ByteArray) (i : Nat) : ∃ p, joined ns (i + 1) = p ++ (ns i).data.toList ∧ p.length = tot ns i + 2 * i := by
  induction i with
  | zero => exact ⟨[], by rw [joined_one]; rfl, rfl⟩
  | succ i ih =>
    obtain ⟨p, hp, hl⟩ := ih
    refine ⟨joined ns (i + 1) ++ [44, 32], by rw [joined_succ]; simp, ?_⟩
    rw [List.length_append, hp, List.length_append, hl, size_list, tot_succ]
    simp
    omega

theorem joined_length (ns : Nat → ByteArray) (i : Nat) : (joined ns (i + 1)).length = tot ns (i + 1) + 2 * i := by
  obtain ⟨p, hp, hl⟩ := joined_at ns i
  rw [hp, List.length_append, hl, size_list, tot_succ]
  omega

theorem joined_more (ns : Nat → ByteArray) (m d : Nat) : ∃ t, joined ns (m + 1 + (d + 1)) = joined ns (m + 1) ++ 44 :: 32 :: t := by
  induction d with
  | zero => exact ⟨(ns (m + 1)).data.toList, joined_succ ns m⟩
  | succ d ih =>
    obtain ⟨t, ht⟩ := ih
    have e : m + 1 + (d + 1 + 1) = (m + d + 1) + 2 := by omega
    have e' : m + 1 + (d + 1) = (m + d + 1) + 1 := by omega
    rw [e'] at ht
    rw [e, joined_succ, ht]
    exact ⟨t ++ ([44, 32] ++ (ns (m + d + 1 + 1)).data.toList), by simp⟩

/-- THE PLACE OF NAME i: behind it the text ends (the last name), or a comma and a blank follow. -/
theorem joined_split (ns : Nat → ByteArray) (n i : Nat) (h : i < n) : ∃ p t, joined ns n = p ++ ((ns i).data.toList ++ t) ∧ p.length = tot ns i + 2 * i ∧ ((i + 1 = n ∧ t = []) ∨ (i + 1 < n ∧ ∃ t', t = 44 :: 32 :: t')) := by
  obtain ⟨p, hp, hl⟩ := joined_at ns i
  by_cases e : i + 1 = n
  · subst e
    exact ⟨p, [], by rw [hp]; simp, hl, .inl ⟨rfl, rfl⟩⟩
  · obtain ⟨d, rfl⟩ : ∃ d, n = i + 1 + (d + 1) := ⟨n - i - 2, by omega⟩
    obtain ⟨t, ht⟩ := joined_more ns i d
    exact ⟨p, 44 :: 32 :: t, by rw [ht, hp]; simp, hl, .inr ⟨by omega, t, rfl⟩⟩

theorem joined_le (ns : Nat → ByteArray) (n : Nat) : (joined ns n).length ≤ tot ns n + 2 * n := by
  cases n with
  | zero => simp [joined_zero]
  | succ n => rw [joined_length]; omega

/-! ### The same of byte strings -/
theorem get_list (s : ByteArray) (k : Nat) (h : k < s.size) : s.data.toList[k]? = some s[k] := by
  rw [List.getElem?_eq_getElem (by rw [size_list]; exact h)]
  rfl

theorem get_of_list {s : ByteArray} {k : Nat} {c : UInt8} (h : k < s.size) (hc : s.data.toList[k]? = some c) : s[k] = c := by
  rw [get_list s k h] at hc
  exact Option.some.inj hc

theorem ext_list {a b : ByteArray} (h : a.data.toList = b.data.toList) : a = b := by
  apply ByteArray.ext
  cases a; cases b
  simpa using h

theorem txt_list (ns : Nat → ByteArray) (n : Nat) : (txt ns n).data.toList = 91 :: (joined ns n ++ [93]) := by simp [txt]

theorem txt_size (ns : Nat → ByteArray) (n : Nat) : (txt ns n).size = (joined ns n).length + 2 := by
  rw [← size_list, txt_list]
  simp

theorem txt_first (ns : Nat → ByteArray) (n : Nat) (h : 0 < (txt ns n).size) : (txt ns n)[0] = 91 := get_of_list h (by rw [txt_list]; rfl)

theorem txt_last (ns : Nat → ByteArray) (n : Nat) (h : (txt ns n).size - 1 < (txt ns n).size) : (txt ns n)[(txt ns n).size - 1] = 93 := by
  refine get_of_list h ?_
  rw [txt_list, txt_size]
  simp

theorem txt_inner (ns : Nat → ByteArray) (n : Nat) : ((txt ns n).extract 1 ((txt ns n).size - 1)).data.toList = joined ns n := by
  rw [Lib.extract_data, txt_list, txt_size]
  simp

section
variable {ns : Nat → ByteArray} {n : Nat} {I : ByteArray}

/-- Where name i begins between the brackets. -/
def offs (ns : Nat → ByteArray) (i : Nat) : Nat := tot ns i + 2 * i

theorem offs_succ (ns : Nat → ByteArray) (i : Nat) : offs ns (i + 1) = offs ns i + (ns i).size + 2 := by
  unfold offs; rw [tot_succ]; omega

theorem in_last (hI : I.data.toList = joined ns n) (i : Nat) (h : i + 1 = n) : offs ns i + (ns i).size = I.size := by
  subst h
  rw [← size_list I, hI, joined_length, tot_succ]
  unfold offs; omega

theorem in_extract (hI : I.data.toList = joined ns n) (i : Nat) (h : i < n) : I.extract (offs ns i) (offs ns i + (ns i).size) = ns i := by
  obtain ⟨p, t, hj, hl, _⟩ := joined_split ns n i h
  apply ext_list
  rw [Lib.extract_data, hI, hj]
  have e : offs ns i = p.length := hl.symm
  rw [e, List.drop_left, show p.length + (ns i).size - p.length = (ns i).data.toList.length by rw [size_list]; omega, List.take_left]

theorem in_size (hI : I.data.toList = joined ns n) (i : Nat) (h : i < n) : offs ns i + (ns i).size ≤ I.size ∧ (i + 1 < n → offs ns i + (ns i).size + 2 ≤ I.size) := by
  obtain ⟨p, t, hj, hl, ht⟩ := joined_split ns n i h
  have e : offs ns i = p.length := hl.symm
  rw [← size_list I, hI, hj, e, List.length_append, List.length_append, size_list]
  refine ⟨by omega, fun hi => ?_⟩
  rcases ht with ⟨h1, _⟩ | ⟨_, t', rfl⟩
  · omega
  · simp only [List.length_cons]; omega

theorem in_byte (hI : I.data.toList = joined ns n) (i : Nat) (h : i < n) (t : Nat) (ht : t < (ns i).size) (hk : offs ns i + t < I.size) : I[offs ns i + t] = (ns i)[t] := by
  obtain ⟨p, r, hj, hl, _⟩ := joined_split ns n i h
  refine get_of_list hk ?_
  have e : offs ns i = p.length := hl.symm
  rw [hI, hj, e, List.getElem?_append_right (by omega), show p.length + t - p.length = t by omega, List.getElem?_append_left (by rw [size_list]; exact ht)]
  exact get_list _ _ ht

theorem in_comma (hI : I.data.toList = joined ns n) (i : Nat) (h : i + 1 < n) (hk : offs ns i + (ns i).size < I.size) : I[offs ns i + (ns i).size] = 44 := by
  obtain ⟨p, r, hj, hl, ht⟩ := joined_split ns n i (by omega)
  refine get_of_list hk ?_
  have e : offs ns i = p.length := hl.symm
  rcases ht with ⟨h1, _⟩ | ⟨_, t', rfl⟩
  · omega
  · rw [hI, hj, e, List.getElem?_append_right (by omega), List.getElem?_append_right (by rw [size_list]; omega), size_list, show p.length + (ns i).size - p.length - (ns i).size = 0 by omega]
    rfl

theorem in_blank (hI : I.data.toList = joined ns n) (i : Nat) (h : i + 1 < n) (hk : offs ns i + (ns i).size + 1 < I.size) : I[offs ns i + (ns i).size + 1] = 32 := by
  obtain ⟨p, r, hj, hl, ht⟩ := joined_split ns n i (by omega)
  refine get_of_list hk ?_
  have e : offs ns i = p.length := hl.symm
  rcases ht with ⟨h1, _⟩ | ⟨_, t', rfl⟩
  · omega
  · rw [hI, hj, e, List.getElem?_append_right (by omega), List.getElem?_append_right (by rw [size_list]; omega), size_list, show p.length + (ns i).size + 1 - p.length - (ns i).size = 1 by omega]
    rfl
end

end Go.Proofs.Yoeaqw
