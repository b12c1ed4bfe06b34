import Derived.Test.Qxb6625633aRows
import Derived.WalkKit
import Derived.WalkSpells
import Derived.WalkLawsBesides
import Derived.Deep.QuietTactic
import Derived.BigQuiet
namespace Go.Proofs.Qxb6625633a
open Go.RowKit
set_option linter.unusedVariables false

theorem Try.info23 : (Try.prog.info? 23).map (fun i => (i.zero, i.size, i.bytes)) = some (some (.int .u64 0), 1, 8) := by kernel_rfl

/-- The slice value at 'ao' reads, in w, as the numbers zs. -/
def RdU (w : World) (ao : Option Addr) (zs : List Int) : Prop :=
  ∀ i, i < zs.length → ∃ b o, ao = some ⟨b, o, none⟩ ∧ w.cell? ⟨b, o + i, none⟩ = some (.int .u64 (zs.getD i 0))

theorem RdU.get {w : World} {ao : Option Addr} {zs : List Int} (h : RdU w ao zs) (i : Nat) (hi : i < zs.length) : ∃ b o x, ao = some ⟨b, o, none⟩ ∧ w.cell? ⟨b, o + i, none⟩ = some (.int .u64 x) ∧ Hid (zs.getD i 0 = x) := by
  obtain ⟨b, o, h1, h2⟩ := h i hi
  exact ⟨b, o, _, h1, h2, rfl⟩

/-- It returns a bool of which p holds, having drawn some answers. -/
def RetB (w : World) (p : Bool → Prop) (e : Ending) (w' : World) : Prop := ∃ (b : Bool) (n : Nat), e = .returned (.bool b) ∧ w.drewN n = w' ∧ p b

theorem RetB.no {w : World} {p : Bool → Prop} (n : Nat) (h : p false) : RetB w p (.returned (.bool false)) (w.drewN n) := ⟨false, n, rfl, rfl, h⟩
theorem RetB.yes {w : World} {p : Bool → Prop} (n : Nat) (h : p true) : RetB w p (.returned (.bool true)) (w.drewN n) := ⟨true, n, rfl, rfl, h⟩

theorem bytes5 (a0 a1 : Option Addr) (l0 c0 l1 c1 : Nat) (x y : Value) (w : World) (h0 : l0 ≤ maxLen) (h1 : l1 ≤ maxLen) :
    Calls Try.prog 5 #[.slice a0 l0 c0, .slice a1 l1 c1, x, y] w (RetB w (fun b => b = true → l0 + l1 ≤ 1048576)) := by
  unfold maxLen at h0 h1
  by_cases g0 : l0 ≤ 1048576
  · by_cases g1 : l1 ≤ 1048576
    · by_cases g2 : l0 + l1 ≤ 1048576
      · go_enter Try.func5, Try.ntmps5
        go_wp2
        go_ret
        exact RetB.yes 0 (fun _ => g2)
      · go_enter Try.func5, Try.ntmps5
        go_wp2
        go_ret
        exact RetB.no 0 (by simp)
    · go_enter Try.func5, Try.ntmps5
      go_wp2
      go_ret
      exact RetB.no 0 (by simp)
  · go_enter Try.func5, Try.ntmps5
    go_wp2
    go_ret
    exact RetB.no 0 (by simp)

theorem bytes15 (a0 a1 a2 : Option Addr) (l0 c0 l1 c1 l2 c2 : Nat) (w : World) (h0 : l0 ≤ maxLen) (h1 : l1 ≤ maxLen) (h2 : l2 ≤ maxLen) :
    Calls Try.prog 15 #[.slice a0 l0 c0, .slice a1 l1 c1, .slice a2 l2 c2] w (RetB w (fun b => b = true → l0 + l1 + l2 ≤ 1048576)) := by
  unfold maxLen at h0 h1 h2
  by_cases g : l0 ≤ 1048576 ∧ l1 ≤ 1048576 ∧ l0 + l1 ≤ 1048576 ∧ l2 ≤ 1048576 ∧ l0 + l1 + l2 ≤ 1048576
  · obtain ⟨g0, g1, g2, g3, g4⟩ := g
    go_enter Try.func15, Try.ntmps15
    go_wp2
    go_ret
    exact RetB.yes 0 (fun _ => g4)
  · go_enter Try.func15, Try.ntmps15
    go_wp2
    all_goals go_ret
    all_goals first | exact RetB.no 0 (by simp) | exact RetB.yes 0 (fun _ => by omega)

/-- Ascending. -/
def Asc (zs : List Int) : Prop := ∀ i, i + 1 < zs.length → zs.getD i 0 < zs.getD (i + 1) 0

set_option maxHeartbeats 400000 in
theorem asc6 (a : Option Addr) (c : Nat) (zs : List Int) (w : World) (h : RdU w a zs) (l : zs.length ≤ 1048576) :
    Calls Try.prog 6 #[.slice a zs.length c] w (RetB w (fun b => b = true → Asc zs)) := by
  go_enter Try.func6, Try.ntmps6
  go_wp2
  go_loopw [3] (fun i wr => ∃ k : Nat, 1 ≤ k ∧ (k ≤ zs.length ∨ k = 1) ∧ i = .int .i64 k ∧ Hid (∀ i, i + 1 < k → zs.getD i 0 < zs.getD (i + 1) 0) ∧ ∃ nq, wr = w.drewN nq) (fun i _ => zs.length - (intOf i).toNat)
  case atStart => exact ⟨1, Nat.le_refl _, .inr rfl, rfl, fun i hi => by omega, 0, rfl⟩
  case round =>
    obtain ⟨k, hk1, hk, rfl, H, n0, rfl⟩ := hrel
    by_cases hlt : k < zs.length
    · obtain ⟨j, rfl⟩ : ∃ j, k = j + 1 := ⟨k - 1, by omega⟩
      obtain ⟨b, o, y, rfl, hc1, Hy⟩ := h.get (j + 1) hlt
      obtain ⟨b', o', x, e1, hc0, Hx⟩ := h.get j (by omega)
      cases e1
      have hi0 : ((j + 1 : Nat) : Int) < (zs.length : Int) := by omega
      have hi1 : (j : Int) < (zs.length : Int) := by omega
      have hi2 : (0 : Int) ≤ (j : Int) := by omega
      by_cases hy : y ≤ x
      · go_wp2
        go_quiet (fail)
        go_wp2
        go_ret
        exact ⟨false, n0 + nq, rfl, by simp, by intro h; cases h⟩
      · go_wp2
        go_quiet (fail)
        go_wp2
        go_roundw
        case rel =>
          refine ⟨j + 2, by omega, by omega, by go_num, fun i hi => ?_, _, rfl⟩
          rcases Nat.lt_or_ge (i + 1) (j + 1) with h' | h'
          · exact H.out i h'
          · rw [show i = j by omega, Hx.out, Hy.out]; omega
        case measure => simp [intOf]; omega
    · go_wp2
      go_ret
      exact RetB.yes n0 (fun _ i hi => H.out i (by omega))

/-- Are all 0? -/
def az (zs : List Int) : Bool := zs.all (fun z => z == 0)

theorem az_false {zs : List Int} {i : Nat} (hi : i < zs.length) (h : zs.getD i 0 ≠ 0) : az zs = false := by
  cases hb : az zs with
  | false => rfl
  | true =>
    unfold az at hb
    rw [List.all_eq_true] at hb
    have := hb zs[i] (List.getElem_mem _)
    simp [hi] at h this
    exact absurd this h

theorem az_true {zs : List Int} (h : ∀ i, i < zs.length → zs.getD i 0 = 0) : az zs = true := by
  unfold az
  rw [List.all_eq_true]
  intro x hx
  obtain ⟨i, hi, rfl⟩ := List.getElem_of_mem hx
  have := h i hi
  simpa [hi] using this

/-- It returns v; the world stands. -/
def RetV (w : World) (v : Value) (e : Ending) (w' : World) : Prop := e = .returned v ∧ w = w'

set_option maxHeartbeats 400000 in
theorem az7 (a : Option Addr) (c : Nat) (zs : List Int) (w : World) (h : RdU w a zs) (l : zs.length ≤ 1048576) :
    Calls Try.prog 7 #[.slice a zs.length c] w (RetV w (.bool (az zs))) := by
  go_enter Try.func7, Try.ntmps7
  go_wp2
  go_loop [3] (fun i => ∃ k : Nat, k ≤ zs.length ∧ i = .int .i64 k ∧ Hid (∀ i, i < k → zs.getD i 0 = 0)) (fun i => zs.length - (intOf i).toNat)
  case atStart => exact ⟨0, Nat.zero_le _, rfl, fun i hi => absurd hi (Nat.not_lt_zero _)⟩
  case round =>
    obtain ⟨k, hk, rfl, H⟩ := hrel
    by_cases hlt : k < zs.length
    · obtain ⟨b, o, x, rfl, hc1, Hx⟩ := h.get k hlt
      by_cases hy : x = 0
      · subst hy
        go_wp2
        go_round
        case rel =>
          refine ⟨k + 1, by omega, by go_num, fun i hi => ?_⟩
          rcases Nat.lt_or_ge i k with h' | h'
          · exact H.out i h'
          · rw [show i = k by omega]; exact Hx.out
        case measure => simp [intOf]; omega
      · have hz := az_false hlt (by rw [Hx.out]; exact hy)
        have hy' : (x != 0) = true := by simpa using hy
        clear hy
        go_wp2
        go_ret
        exact ⟨rfl, rfl⟩
    · have hz := az_true (zs := zs) (fun i hi => H.out i (by omega))
      go_wp2
      go_ret
      exact ⟨rfl, rfl⟩

/-- It returns the place of k among the numbers, or -1; the world stands. -/
def RetIx (w : World) (zs : List Int) (k : Int) (e : Ending) (w' : World) : Prop :=
  ∃ r : Int, e = .returned (.int .i64 r) ∧ w = w' ∧ ((r = -1 ∧ ∀ j, j < zs.length → zs.getD j 0 ≠ k) ∨ ∃ i : Nat, i < zs.length ∧ r = i ∧ zs.getD i 0 = k)

set_option maxHeartbeats 400000 in
theorem ix9 (a : Option Addr) (c : Nat) (zs : List Int) (q : Int) (w : World) (h : RdU w a zs) (l : zs.length ≤ 1048576) :
    Calls Try.prog 9 #[.slice a zs.length c, .int .u64 q] w (RetIx w zs q) := by
  go_enter Try.func9, Try.ntmps9
  go_wp2
  go_loop [5] (fun i => ∃ k : Nat, k ≤ zs.length ∧ i = .int .i64 k ∧ Hid (∀ i, i < k → zs.getD i 0 ≠ q)) (fun i => zs.length - (intOf i).toNat)
  case atStart => exact ⟨0, Nat.zero_le _, rfl, fun i hi => absurd hi (Nat.not_lt_zero _)⟩
  case round =>
    obtain ⟨k, hk, rfl, H⟩ := hrel
    by_cases hlt : k < zs.length
    · obtain ⟨b, o, x, rfl, hc1, Hx⟩ := h.get k hlt
      by_cases hy : x = q
      · subst hy
        go_wp2
        go_ret
        exact ⟨k, rfl, rfl, .inr ⟨k, hlt, rfl, Hx.out⟩⟩
      · have HY : Hid (x ≠ q) := hy
        have hy' : (x == q) = false := by simpa using hy
        clear hy
        go_wp2
        go_round
        case rel =>
          refine ⟨k + 1, by omega, by go_num, fun i hi => ?_⟩
          rcases Nat.lt_or_ge i k with h' | h'
          · exact H.out i h'
          · rw [show i = k by omega, Hx.out]; exact HY.out
        case measure => simp [intOf]; omega
    · go_wp2
      go_ret
      exact ⟨-1, rfl, rfl, .inl ⟨rfl, fun j hj => H.out j (by omega)⟩⟩

end Go.Proofs.Qxb6625633a
