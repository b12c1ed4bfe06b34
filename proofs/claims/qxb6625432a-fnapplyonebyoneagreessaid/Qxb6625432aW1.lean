import Derived.Test.Qxb6625432aRows
import Derived.WalkKit
import Derived.WalkSpells
import Derived.WalkLawsBesides
namespace Go.Proofs.Qxb6625432a
open Go.RowKit

/-- The slice value at 'ao' reads, in w, as the strings ss. -/
def RdS (w : World) (ao : Option Addr) (ss : List ByteArray) : Prop :=
  ∀ i, i < ss.length → ∃ b o, ao = some ⟨b, o, none⟩ ∧ w.cell? ⟨b, o + i, none⟩ = some (.string (ss.getD i ByteArray.empty))

/-- It returns a bool of which p holds, in the same world. -/
def RetB (w : World) (p : Bool → Prop) (e : Ending) (w' : World) : Prop := ∃ b : Bool, e = .returned (.bool b) ∧ w = w' ∧ p b

theorem RetB.no {w : World} {p : Bool → Prop} (h : p false) : RetB w p (.returned (.bool false)) w := ⟨false, rfl, rfl, h⟩
theorem RetB.yes {w : World} {p : Bool → Prop} (h : p true) : RetB w p (.returned (.bool true)) w := ⟨true, rfl, rfl, h⟩

set_option maxHeartbeats 1000000 in
theorem bytes5 (a0 a1 a2 : Option Addr) (c0 c1 l2 c2 : Nat) (s0 s1 : List ByteArray) (cut : Int) (w : World)
    (h0 : RdS w a0 s0) (h1 : RdS w a1 s1) (z0 : ∀ i, (s0.getD i ByteArray.empty).size ≤ maxLen) (z1 : ∀ i, (s1.getD i ByteArray.empty).size ≤ maxLen) (l0 : s0.length ≤ maxLen) (l1 : s1.length ≤ maxLen) (hl2 : l2 ≤ maxLen) :
    Calls Try.prog 5 #[.slice a0 s0.length c0, .slice a1 s1.length c1, .slice a2 l2 c2, .int .i64 cut] w
      (RetB w (fun b => b = true → s0.length + s1.length + l2 ≤ 1048576)) := by
  unfold maxLen at l0 l1 hl2
  by_cases g0 : s0.length ≤ 1048576
  · go_enter Try.func5, Try.ntmps5
    go_wp2
    go_loop [9, 10] (fun n i => ∃ k m : Nat, k ≤ s0.length ∧ i = .int .i64 k ∧ s0.length ≤ m ∧ m ≤ 1048576 ∧ n = .int .i64 m) (fun _ i => s0.length - (intOf i).toNat)
    case atStart => exact ⟨0, s0.length, Nat.zero_le _, rfl, Nat.le_refl _, g0, by go_num⟩
    case round =>
      obtain ⟨k, m, hk, rfl, hm0, hm1, rfl⟩ := hrel
      by_cases hlt : k < s0.length
      · obtain ⟨b, o, rfl, hcell⟩ := h0 k hlt
        have hsz := z0 k
        unfold maxLen at hsz; clear z0 z1
        go_wp2
        · go_ret
          exact .no (by simp)
        · go_ret
          exact .no (by simp)
        · go_round
          case rel => exact ⟨k + 1, m + s0[k].size, by omega, by go_num, by omega, by omega, by go_num⟩
          case measure => simp [intOf]; omega
      · by_cases g1 : s1.length ≤ 1048576
        · by_cases g2 : m + s1.length ≤ 1048576
          · go_wp2
            go_loop [9, 11] (fun n i => ∃ k' m' : Nat, k' ≤ s1.length ∧ i = .int .i64 k' ∧ s0.length + s1.length ≤ m' ∧ m' ≤ 1048576 ∧ n = .int .i64 m') (fun _ i => s1.length - (intOf i).toNat)
            case atStart => exact ⟨0, m + s1.length, Nat.zero_le _, rfl, by omega, g2, by go_num⟩
            case round =>
              obtain ⟨k', m', hk', rfl, hm0', hm1', rfl⟩ := hrel
              by_cases hlt' : k' < s1.length
              · obtain ⟨b, o, rfl, hcell⟩ := h1 k' hlt'
                have hsz := z1 k'
                unfold maxLen at hsz; clear z0 z1
                go_wp2
                · go_ret
                  exact .no (by simp)
                · go_ret
                  exact .no (by simp)
                · go_round
                  case rel => exact ⟨k' + 1, m' + s1[k'].size, by omega, by go_num, by omega, by omega, by go_num⟩
                  case measure => simp [intOf]; omega
              · go_wp2
                · go_ret
                  exact .no (by simp)
                · go_ret
                  exact .no (by simp)
                · go_ret
                  exact .yes (fun _ => by omega)
          · go_wp2
            go_ret
            exact .no (by simp)
        · go_wp2
          go_ret
          exact .no (by simp)
  · go_enter Try.func5, Try.ntmps5
    go_wp2
    go_ret
    exact .no (by simp)

set_option maxHeartbeats 1000000 in
theorem bytes17 (a0 a1 a2 : Option Addr) (c0 c1 l2 c2 : Nat) (s0 s1 : List ByteArray) (w : World)
    (h0 : RdS w a0 s0) (h1 : RdS w a1 s1) (z0 : ∀ i, (s0.getD i ByteArray.empty).size ≤ maxLen) (z1 : ∀ i, (s1.getD i ByteArray.empty).size ≤ maxLen) (l0 : s0.length ≤ maxLen) (l1 : s1.length ≤ maxLen) (hl2 : l2 ≤ maxLen) :
    Calls Try.prog 17 #[.slice a0 s0.length c0, .slice a1 s1.length c1, .slice a2 l2 c2] w
      (RetB w (fun b => b = true → s0.length + s1.length + l2 ≤ 1048576)) := by
  unfold maxLen at l0 l1 hl2
  by_cases g0 : s0.length ≤ 1048576
  · go_enter Try.func17, Try.ntmps17
    go_wp2
    go_loop [7, 8] (fun n i => ∃ k m : Nat, k ≤ s0.length ∧ i = .int .i64 k ∧ s0.length ≤ m ∧ m ≤ 1048576 ∧ n = .int .i64 m) (fun _ i => s0.length - (intOf i).toNat)
    case atStart => exact ⟨0, s0.length, Nat.zero_le _, rfl, Nat.le_refl _, g0, by go_num⟩
    case round =>
      obtain ⟨k, m, hk, rfl, hm0, hm1, rfl⟩ := hrel
      by_cases hlt : k < s0.length
      · obtain ⟨b, o, rfl, hcell⟩ := h0 k hlt
        have hsz := z0 k
        unfold maxLen at hsz; clear z0 z1
        go_wp2
        · go_ret
          exact .no (by simp)
        · go_ret
          exact .no (by simp)
        · go_round
          case rel => exact ⟨k + 1, m + s0[k].size, by omega, by go_num, by omega, by omega, by go_num⟩
          case measure => simp [intOf]; omega
      · by_cases g1 : s1.length ≤ 1048576
        · by_cases g2 : m + s1.length ≤ 1048576
          · go_wp2
            go_loop [7, 9] (fun n i => ∃ k' m' : Nat, k' ≤ s1.length ∧ i = .int .i64 k' ∧ s0.length + s1.length ≤ m' ∧ m' ≤ 1048576 ∧ n = .int .i64 m') (fun _ i => s1.length - (intOf i).toNat)
            case atStart => exact ⟨0, m + s1.length, Nat.zero_le _, rfl, by omega, g2, by go_num⟩
            case round =>
              obtain ⟨k', m', hk', rfl, hm0', hm1', rfl⟩ := hrel
              by_cases hlt' : k' < s1.length
              · obtain ⟨b, o, rfl, hcell⟩ := h1 k' hlt'
                have hsz := z1 k'
                unfold maxLen at hsz; clear z0 z1
                go_wp2
                · go_ret
                  exact .no (by simp)
                · go_ret
                  exact .no (by simp)
                · go_round
                  case rel => exact ⟨k' + 1, m' + s1[k'].size, by omega, by go_num, by omega, by omega, by go_num⟩
                  case measure => simp [intOf]; omega
              · go_wp2
                · go_ret
                  exact .no (by simp)
                · go_ret
                  exact .no (by simp)
                · go_ret
                  exact .yes (fun _ => by omega)
          · go_wp2
            go_ret
            exact .no (by simp)
        · go_wp2
          go_ret
          exact .no (by simp)
  · go_enter Try.func17, Try.ntmps17
    go_wp2
    go_ret
    exact .no (by simp)

set_option maxHeartbeats 1000000 in
theorem within6 (a0 a1 a2 : Option Addr) (c0 c1 l2 c2 : Nat) (s0 s1 : List ByteArray) (w : World)
    (h0 : RdS w a0 s0) (h1 : RdS w a1 s1) (z0 : ∀ i, (s0.getD i ByteArray.empty).size ≤ maxLen) (z1 : ∀ i, (s1.getD i ByteArray.empty).size ≤ maxLen) (l0 : s0.length ≤ maxLen) (l1 : s1.length ≤ maxLen) (hl2 : l2 ≤ maxLen) :
    Calls Try.prog 6 #[.slice a0 s0.length c0, .slice a1 s1.length c1, .slice a2 l2 c2] w (RetB w (fun _ => True)) := by
  unfold maxLen at l0 l1 hl2
  by_cases g0 : l2 ≤ 1048576
  · go_enter Try.func6, Try.ntmps6
    go_wp2
    go_loop [7, 8] (fun n i => ∃ k m : Nat, k ≤ s0.length ∧ i = .int .i64 k ∧ m ≤ 1048576 ∧ n = .int .i64 m) (fun _ i => s0.length - (intOf i).toNat)
    case atStart => exact ⟨0, l2, Nat.zero_le _, rfl, g0, by go_num⟩
    case round =>
      obtain ⟨k, m, hk, rfl, hm1, rfl⟩ := hrel
      by_cases hlt : k < s0.length
      · obtain ⟨b, o, rfl, hcell⟩ := h0 k hlt
        have hsz := z0 k
        unfold maxLen at hsz; clear z0 z1
        go_wp2
        · go_ret
          exact .no trivial
        · go_ret
          exact .no trivial
        · go_round
          case rel => exact ⟨k + 1, m + (16 + s0[k].size), by omega, by go_num, by omega, by go_num⟩
          case measure => simp [intOf]; omega
      · go_wp2
        go_loop [7, 9] (fun n i => ∃ k' m' : Nat, k' ≤ s1.length ∧ i = .int .i64 k' ∧ m' ≤ 1048576 ∧ n = .int .i64 m') (fun _ i => s1.length - (intOf i).toNat)
        case atStart => exact ⟨0, m, Nat.zero_le _, rfl, hm1, by go_num⟩
        case round =>
          obtain ⟨k', m', hk', rfl, hm1', rfl⟩ := hrel
          by_cases hlt' : k' < s1.length
          · obtain ⟨b, o, rfl, hcell⟩ := h1 k' hlt'
            have hsz := z1 k'
            unfold maxLen at hsz; clear z0 z1
            go_wp2
            · go_ret
              exact .no trivial
            · go_ret
              exact .no trivial
            · go_round
              case rel => exact ⟨k' + 1, m' + (16 + s1[k'].size), by omega, by go_num, by omega, by go_num⟩
              case measure => simp [intOf]; omega
          · go_wp2
            go_ret
            exact .yes trivial
  · go_enter Try.func6, Try.ntmps6
    go_wp2
    go_ret
    exact .no trivial

end Go.Proofs.Qxb6625432a
