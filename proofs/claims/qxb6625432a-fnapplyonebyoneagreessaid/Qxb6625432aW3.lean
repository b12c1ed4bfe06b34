import Derived.Test.Qxb6625432aW2
import Derived.Deep.QuietTactic
import Derived.BigQuiet
namespace Go.Proofs.Qxb6625432a
open Go.RowKit
set_option linter.unusedVariables false

/-- It returns v, having drawn some answers. -/
def RetD (w : World) (v : Value) (e : Ending) (w' : World) : Prop := e = .returned v ∧ ∃ n, w' = w.drewN n

set_option maxHeartbeats 400000 in
theorem eq14 (a0 a1 : Option Addr) (c0 c1 : Nat) (ss : List ByteArray) (w : World) (h0 : RdS w a0 ss) (h1 : RdS w a1 ss) (l0 : ss.length ≤ 2097152) :
    Calls Try.prog 14 #[.slice a0 ss.length c0, .slice a1 ss.length c1] w (RetD w (.bool true)) := by
  go_enter Try.func14, Try.ntmps14
  go_wp2
  go_loopw [5] (fun i wr => ∃ k : Nat, k ≤ ss.length ∧ i = .int .i64 k ∧ ∃ nq, wr = w.drewN nq) (fun i _ => ss.length - (intOf i).toNat)
  case atStart => exact ⟨0, Nat.zero_le _, rfl, 0, rfl⟩
  case round =>
    obtain ⟨k, hk, rfl, nq, rfl⟩ := hrel
    by_cases hlt : k < ss.length
    · obtain ⟨b, o, rfl, hcell⟩ := h0 k hlt
      obtain ⟨b', o', rfl, hcell'⟩ := h1 k hlt
      have hi0 : (k : Int) < (ss.length : Int) := by omega
      go_wp2
      go_quiet (fail)
      go_wp2
      go_roundw
      case rel => exact ⟨k + 1, by omega, by go_num, _, rfl⟩
      case measure => simp [intOf]; omega
    · go_wp2
      go_ret
      exact ⟨rfl, nq, rfl⟩

/-- Does option k refuse? -/
def fb (fs : List Bool) (k : Nat) : Bool := fs.getD k false

theorem refused18 (a : Option Addr) (c : Nat) (fs : List Bool) (k : Nat) (w : World) (h : RdB w a fs) (l : fs.length ≤ 1048576) (hk : k ≤ 1048576) :
    Calls Try.prog 18 #[.slice a fs.length c, .int .i64 k] w fun e w' => e = .returned (.bool (fb fs k)) ∧ w = w' := by
  by_cases hlt : k < fs.length
  · obtain ⟨b, o, rfl, hcell⟩ := h k hlt
    go_enter Try.func18, Try.ntmps18
    go_wp2
    go_ret
    exact ⟨by simp [fb, hlt], rfl⟩
  · go_enter Try.func18, Try.ntmps18
    go_wp2
    go_ret
    exact ⟨by simp [fb, List.getElem?_eq_none (Nat.le_of_not_lt hlt)], rfl⟩

/-- k is the first of the numbers below n at which fs says yes, or n. -/
def FR (fs : List Bool) (n k : Nat) : Prop := k ≤ n ∧ (∀ i, i < k → fb fs i = false) ∧ (k < n → fb fs k = true)

theorem FR.uniq {fs : List Bool} {n k j : Nat} (h : FR fs n k) (g : FR fs n j) : k = j := by
  obtain ⟨a, b, c⟩ := h
  obtain ⟨a', b', c'⟩ := g
  rcases Nat.lt_trichotomy k j with h | h | h
  · have := b' k h; rw [c (by omega)] at this; cases this
  · exact h
  · have := b j h; rw [c' (by omega)] at this; cases this

/-- It returns the first refused index; the world stands. -/
def RetK (w : World) (fs : List Bool) (n : Nat) (e : Ending) (w' : World) : Prop := ∃ k : Nat, e = .returned (.int .i64 k) ∧ w = w' ∧ FR fs n k

set_option maxHeartbeats 400000 in
theorem first10 (a0 a1 : Option Addr) (n c0 c1 : Nat) (fs : List Bool) (w : World) (h : RdB w a1 fs) (ln : n ≤ 1048576) (lf : fs.length ≤ 1048576) :
    Calls Try.prog 10 #[.slice a0 n c0, .slice a1 fs.length c1] w (RetK w fs n) := by
  go_enter Try.func10, Try.ntmps10
  go_wp2
  go_loop [5] (fun i => ∃ k : Nat, k ≤ n ∧ i = .int .i64 k ∧ Hid (∀ i, i < k → fb fs i = false)) (fun i => n - (intOf i).toNat)
  case atStart => exact ⟨0, Nat.zero_le _, rfl, fun i hi => absurd hi (Nat.not_lt_zero _)⟩
  case round =>
    obtain ⟨k, hk, rfl, H⟩ := hrel
    by_cases hlt : k < n
    · by_cases hy : fb fs k = true
      · have HY : Hid (fb fs k = true) := hy
        go_wp2_with (go_at_call 18; refine (refused18 _ _ _ _ _ h lf (by omega)).mono ?_; rintro e w' ⟨rfl, rfl⟩)
        go_ret
        exact ⟨k, rfl, rfl, hk, H.out, fun _ => HY.out⟩
      · have hy' : fb fs k = false := by simpa using hy
        have HY : Hid (fb fs k = false) := hy'
        clear hy
        go_wp2_with (go_at_call 18; refine (refused18 _ _ _ _ _ h lf (by omega)).mono ?_; rintro e w' ⟨rfl, rfl⟩)
        go_round
        case rel =>
          refine ⟨k + 1, by omega, by go_num, fun i hi => ?_⟩
          rcases Nat.lt_or_ge i k with h' | h'
          · exact H.out i h'
          · rw [show i = k by omega]; exact HY.out
        case measure => simp [intOf]; omega
    · go_wp2
      go_ret
      exact ⟨n, rfl, rfl, Nat.le_refl _, fun i hi => H.out i (by omega), fun h => absurd h (Nat.lt_irrefl _)⟩

end Go.Proofs.Qxb6625432a
