/-
  strings.Join at this program's numbers: laid by the shelf's tool in plain words (lay-plain.mjs), cut down to Join's part; then the contract at the separator as the walks use it.
-/
import Derived.Shelf.Strings.OnBuilder
import Derived.Test.YoeaqwProg
import Derived.Test.YoeaqwText
namespace Go.Proofs
open Go.Shelf
def Eaqg.lays156_ren : Go.Shelf.Ren := ⟨fun | 156 => 18 | 165 => 19 | 166 => 20 | 169 => 21 | 240 => 22 | 241 => 23 | 276 => 24 | 277 => 25 | n => n, fun | 31 => 22 | 9 => 9 | 3 => 3 | 4 => 4 | 0 => 0 | 20 => 20 | 72 => 48 | 76 => 52 | 70 => 45 | 37 => 46 | 75 => 51 | 127 => 54 | 164 => 55 | 5 => 5 | 80 => 28 | n => n, fun | n => n⟩
theorem Eaqg.lays156 : Go.Proofs.Lays.n156 Eaqg.prog Eaqg.lays156_ren := {
  mixed := by kernel_rfl
  f156 := Eaqg.func18.trans (congrArg some (by kernel_rfl))
  f165 := Eaqg.func19.trans (congrArg some (by kernel_rfl))
  f166 := Eaqg.func20.trans (congrArg some (by kernel_rfl))
  f169 := Eaqg.func21.trans (congrArg some (by kernel_rfl))
  f240 := Eaqg.func22.trans (congrArg some (by kernel_rfl))
  f241 := Eaqg.func23.trans (congrArg some (by kernel_rfl))
  f276 := Eaqg.func24.trans (congrArg some (by kernel_rfl))
  f277 := Eaqg.func25.trans (congrArg some (by kernel_rfl))
  t0 := Eaqg.underlying0
  a0 := Eaqg.isAgg0
  z0 := Eaqg.sizeOf0
  v0 := Eaqg.zeroValue0
  t3 := Eaqg.underlying3
  a3 := Eaqg.isAgg3
  z3 := Eaqg.sizeOf3
  v3 := Eaqg.zeroValue3
  t4 := Eaqg.underlying4
  a4 := Eaqg.isAgg4
  z4 := Eaqg.sizeOf4
  v4 := Eaqg.zeroValue4
  t9 := Eaqg.underlying9
  a9 := Eaqg.isAgg9
  z9 := Eaqg.sizeOf9
  v9 := Eaqg.zeroValue9
  t20 := Eaqg.underlying20
  a20 := Eaqg.isAgg20
  z20 := Eaqg.sizeOf20
  v20 := Eaqg.zeroValue20
  t31 := Eaqg.underlying22
  a31 := Eaqg.isAgg22
  z31 := Eaqg.sizeOf22
  v31 := Eaqg.zeroValue22
  t37 := Eaqg.underlying46
  a37 := Eaqg.isAgg46
  z37 := Eaqg.sizeOf46
  v37 := Eaqg.zeroValue46
  t70 := Eaqg.underlying45
  a70 := Eaqg.isAgg45
  z70 := Eaqg.sizeOf45
  v70 := Eaqg.zeroValue45
  t72 := Eaqg.underlying48
  a72 := Eaqg.isAgg48
  z72 := Eaqg.sizeOf48
  v72 := Eaqg.zeroValue48
  t75 := Eaqg.underlying51
  a75 := Eaqg.isAgg51
  z75 := Eaqg.sizeOf51
  v75 := Eaqg.zeroValue51
  t76 := Eaqg.underlying52
  a76 := Eaqg.isAgg52
  z76 := Eaqg.sizeOf52
  v76 := Eaqg.zeroValue52
  t127 := Eaqg.underlying54
  a127 := Eaqg.isAgg54
  z127 := Eaqg.sizeOf54
  v127 := Eaqg.zeroValue54
  t164 := Eaqg.underlying55
  a164 := Eaqg.isAgg55
  z164 := Eaqg.sizeOf55
  v164 := Eaqg.zeroValue55 }
theorem Eaqg.Builder_Extra_156 : Builder.Extra Eaqg.prog Eaqg.lays156_ren := {
  sizeBuilder := by kernel_rfl
  liesBuilder := by kernel_rfl
  t5 := Eaqg.underlying5
  a5 := Eaqg.isAgg5
  z5 := Eaqg.sizeOf5
  v5 := Eaqg.zeroValue5
  infoByte := by kernel_rfl
  cellsByte := by kernel_rfl
  sizeByte := by kernel_rfl
  neB5 := by decide }
open Go.RowKit in
theorem Eaqg.strings_Join_none (a : Option Addr) (c : Nat) (sep : ByteArray) (w : World) :
    Calls Eaqg.prog 18 #[.slice a 0 c, .string sep] w fun e w' => e = .returned (.string ⟨#[]⟩) ∧ w' = w := Any.strings_Join_none Eaqg.lays156 Eaqg.Builder_Extra_156 a c sep w
open Go.RowKit in
theorem Eaqg.strings_Join (bk o c : Nat) (xs : List ByteArray) (sep : ByteArray) (w : World) (hcells : ∀ (j : Nat) x, xs[j]? = some x → w.cell? ⟨bk, o + j, none⟩ = some (.string x)) (hbk : bk < w.heap.size) (hN : xs.length ≤ 140737488355328) (hcap : xs.length ≤ c) (hlen : (Lib.join (xs.map (·.data.toList)) sep.data.toList).length ≤ 140737488355328) :
    Calls Eaqg.prog 18 #[.slice (some ⟨bk, o, none⟩) xs.length c, .string sep] w fun e w' => e = .returned (.string ⟨(Lib.join (xs.map (·.data.toList)) sep.data.toList).toArray⟩) ∧ Below w.heap.size w w' := Any.strings_Join Eaqg.lays156 Eaqg.Builder_Extra_156 bk o c xs sep w hcells hbk hN hcap hlen
end Go.Proofs

namespace Go.Proofs.Yoeaqw
open Go.RowKit

/-- strings.Join at the separator of a comma and a blank: proved off the shelf. -/
theorem joinSaid : JoinSaid := by
  intro ao n c ns w hs hcap hn hlen
  rcases Nat.eq_zero_or_pos n with rfl | hpos
  · refine (Eaqg.strings_Join_none ao c ⟨#[44, 32]⟩ w).mono fun e w' ⟨he, hw⟩ => ?_
    subst hw
    exact ⟨he, Below.refl _ _⟩
  · rcases hs with h | ⟨b, off, rfl, hb, hc⟩
    · omega
    · have hl : ((List.range n).map ns).length = n := by simp
      have hm : ((List.range n).map ns).map (·.data.toList) = bl ns n := by
        unfold bl
        rw [List.map_map]
        rfl
      have key := Eaqg.strings_Join b off c ((List.range n).map ns) ⟨#[44, 32]⟩ w
        (fun j x hx => by
          rw [List.getElem?_map] at hx
          by_cases hj : j < n
          · rw [List.getElem?_range hj] at hx
            obtain rfl := Option.some.inj hx
            exact hc j hj
          · rw [List.getElem?_eq_none (by simpa using hj)] at hx
            cases hx)
        hb (by rw [hl]; omega) (by rw [hl]; omega)
        (by
          rw [hm]
          show (joined ns n).length ≤ _
          omega)
      rw [hl, hm] at key
      exact key
end Go.Proofs.Yoeaqw
