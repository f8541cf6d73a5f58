/-
  The measures of a list of names: zzB2Bytes (function 7), the three zzBytes_ (6, 11, 17).
-/
import Derived.Test.YoeaqwKit
namespace Go.Proofs.Yoeaqw
open Go.RowKit

/-- zzB2Bytes: where the answer is at most 1<<20, eight bytes a name and the names' lengths come to at most 1<<20. -/
theorem bytes7 (ao : Option Addr) (n cap : Nat) (ns : Nat → ByteArray) (w : World) (h : SS w ao n ns) (hn : n ≤ 65536) :
    Calls Eaqg.prog 7 #[.slice ao n cap] w fun e w' => (∃ r : Int, e = .returned (.int .i64 r) ∧ (r ≤ 1048576 → 8 * n + tot ns n ≤ 1048576)) ∧ w' = w := by
  go_enter Eaqg.func7, Eaqg.ntmps7
  go_wp2
  go_loop [3, 4] (fun t i => ∃ k q : Nat, k ≤ n ∧ i = .int .i64 k ∧ t = .int .i64 q ∧ q ≤ 1048576 ∧ Hid (q = 8 * n + tot ns k)) (fun _ i => n - (intOf i).toNat)
  case atStart => exact ⟨0, 8 * n, Nat.zero_le _, rfl, by go_num, by omega, show _ = _ from rfl⟩
  case round =>
    obtain ⟨k, q, hk, rfl, rfl, hq, HQ⟩ := hrel
    by_cases hlt : k < n
    · rcases h with h0 | ⟨b, off, rfl, hb, hc⟩
      · omega
      · have hck := hc k hlt
        clear hc
        go_wp2
        · go_ret
          exact ⟨⟨_, rfl, fun hr => by omega⟩, rfl⟩
        · go_ret
          exact ⟨⟨_, rfl, fun hr => by omega⟩, rfl⟩
        · go_round
          case rel => exact ⟨k + 1, q + (ns k).size, by omega, by go_num, by go_num, by omega, show _ = _ by have := HQ.out; rw [tot_succ]; omega⟩
          case measure => simp [intOf]; omega
    · go_wp2
      go_ret
      have : k = n := by omega
      subst this
      exact ⟨⟨_, rfl, fun _ => by have := HQ.out; omega⟩, rfl⟩

/-- zzBytes_ (function 6): it answers a bool and changes nothing. -/
theorem bytes6 (ao : Option Addr) (n cap : Nat) (ns : Nat → ByteArray) (w : World) (h : SS w ao n ns) (hn : n ≤ 9223372036854775807) :
    Calls Eaqg.prog 6 #[.slice ao n cap] w fun e w' => RetBool e ∧ w' = w := by
  by_cases hbig : n ≤ 1048576
  · go_enter Eaqg.func6, Eaqg.ntmps6
    go_wp2
    go_loop [3, 4] (fun t i => ∃ k q : Nat, k ≤ n ∧ i = .int .i64 k ∧ t = .int .i64 q ∧ q ≤ 1048576) (fun _ i => n - (intOf i).toNat)
    case atStart => exact ⟨0, n, Nat.zero_le _, rfl, by go_num, by omega⟩
    case round =>
      obtain ⟨k, q, hk, rfl, rfl, hq⟩ := hrel
      by_cases hlt : k < n
      · rcases h with h0 | ⟨b, off, rfl, hb, hc⟩
        · omega
        · have hck := hc k hlt
          clear hc
          go_wp2
          · go_ret
            exact ⟨⟨_, rfl⟩, rfl⟩
          · go_ret
            exact ⟨⟨_, rfl⟩, rfl⟩
          · go_round
            case rel => exact ⟨k + 1, q + (ns k).size, by omega, by go_num, by go_num, by omega⟩
            case measure => simp [intOf]; omega
      · go_wp2
        go_ret
        exact ⟨⟨_, rfl⟩, rfl⟩
  · go_enter Eaqg.func6, Eaqg.ntmps6
    go_wp2
    go_ret
    exact ⟨⟨_, rfl⟩, rfl⟩

/-- zzBytes_ (function 11): it answers a bool and changes nothing. -/
theorem bytes11 (ao : Option Addr) (n cap : Nat) (ns : Nat → ByteArray) (a1 : Int) (w : World) (h : SS w ao n ns) (hn : n ≤ 9223372036854775807) :
    Calls Eaqg.prog 11 #[.slice ao n cap, .int .i64 a1] w fun e w' => RetBool e ∧ w' = w := by
  by_cases hbig : n ≤ 1048576
  · go_enter Eaqg.func11, Eaqg.ntmps11
    go_wp2
    go_loop [5, 6] (fun t i => ∃ k q : Nat, k ≤ n ∧ i = .int .i64 k ∧ t = .int .i64 q ∧ q ≤ 1048576) (fun _ i => n - (intOf i).toNat)
    case atStart => exact ⟨0, n, Nat.zero_le _, rfl, by go_num, by omega⟩
    case round =>
      obtain ⟨k, q, hk, rfl, rfl, hq⟩ := hrel
      by_cases hlt : k < n
      · rcases h with h0 | ⟨b, off, rfl, hb, hc⟩
        · omega
        · have hck := hc k hlt
          clear hc
          go_wp2
          · go_ret
            exact ⟨⟨_, rfl⟩, rfl⟩
          · go_ret
            exact ⟨⟨_, rfl⟩, rfl⟩
          · go_round
            case rel => exact ⟨k + 1, q + (ns k).size, by omega, by go_num, by go_num, by omega⟩
            case measure => simp [intOf]; omega
      · go_wp2
        go_ret
        exact ⟨⟨_, rfl⟩, rfl⟩
  · go_enter Eaqg.func11, Eaqg.ntmps11
    go_wp2
    go_ret
    exact ⟨⟨_, rfl⟩, rfl⟩

/-- zzBytes_ (function 17): it answers a bool and changes nothing. -/
theorem bytes17 (ao : Option Addr) (n cap : Nat) (ns : Nat → ByteArray) (a1 a2 a3 : Int) (w : World) (h : SS w ao n ns) (hn : n ≤ 9223372036854775807) :
    Calls Eaqg.prog 17 #[.slice ao n cap, .int .i64 a1, .int .i64 a2, .int .i64 a3] w fun e w' => RetBool e ∧ w' = w := by
  by_cases hbig : n ≤ 1048576
  · go_enter Eaqg.func17, Eaqg.ntmps17
    go_wp2
    go_loop [9, 10] (fun t i => ∃ k q : Nat, k ≤ n ∧ i = .int .i64 k ∧ t = .int .i64 q ∧ q ≤ 1048576) (fun _ i => n - (intOf i).toNat)
    case atStart => exact ⟨0, n, Nat.zero_le _, rfl, by go_num, by omega⟩
    case round =>
      obtain ⟨k, q, hk, rfl, rfl, hq⟩ := hrel
      by_cases hlt : k < n
      · rcases h with h0 | ⟨b, off, rfl, hb, hc⟩
        · omega
        · have hck := hc k hlt
          clear hc
          go_wp2
          · go_ret
            exact ⟨⟨_, rfl⟩, rfl⟩
          · go_ret
            exact ⟨⟨_, rfl⟩, rfl⟩
          · go_round
            case rel => exact ⟨k + 1, q + (ns k).size, by omega, by go_num, by go_num, by omega⟩
            case measure => simp [intOf]; omega
      · go_wp2
        go_ret
        exact ⟨⟨_, rfl⟩, rfl⟩
  · go_enter Eaqg.func17, Eaqg.ntmps17
    go_wp2
    go_ret
    exact ⟨⟨_, rfl⟩, rfl⟩

end Go.Proofs.Yoeaqw
