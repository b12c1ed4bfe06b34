import Derived.Test.Qxb6625633aV2
namespace Go.Proofs.Qxb6625633a
open Go.RowKit
set_option linter.unusedVariables false

/-- The node's block: a leaf with the keys at ka (n of them) and the tag column tv. -/
def NodeIs (w : World) (nb : Nat) (ka : Option Addr) (n : Nat) (tv : Value) : Prop :=
  w.heap[nb]? = some (.cells #[.slice ka n n, tv, .slice none 0 0, .slice none 0 0, .slice none 0 0, .pointer none] 46 (0, 0))
/-- The set's block: its root. -/
def RootIs (w : World) (sb : Nat) (r : Option Addr) : Prop := ∃ x1 x2 x3 x4, w.heap[sb]? = some (.cells #[.pointer r, x1, x2, x3, x4] 40 (0, 0))

theorem load22 (nb : Nat) (ka : Option Addr) (n : Nat) (tv : Value) (w : World) (h : NodeIs w nb ka n tv) :
    Calls Try.prog 22 #[.pointer (some ⟨nb, 0, none⟩)] w (RetV w (.bool true)) := by
  have c5 : w.cell? ⟨nb, 5, none⟩ = some (.pointer none) := by unfold NodeIs at h; simp [World.cell?, h]
  go_enter Try.func22, Try.ntmps22
  go_wp2
  go_ret
  exact ⟨rfl, rfl⟩

theorem leaf24 (nb : Nat) (ka : Option Addr) (n : Nat) (tv : Value) (w : World) (h : NodeIs w nb ka n tv) :
    Calls Try.prog 24 #[.pointer (some ⟨nb, 0, none⟩)] w (RetV w (.bool true)) := by
  have c5 : w.cell? ⟨nb, 5, none⟩ = some (.pointer none) := by unfold NodeIs at h; simp [World.cell?, h]
  have c4 : w.cell? ⟨nb, 4, none⟩ = some (.slice none 0 0) := by unfold NodeIs at h; simp [World.cell?, h]
  have kn := fun w a n c => Lib.run_eql_slice_nil (P := Try.prog) w 43 36 a n c 0 0 Try.underlying43
  go_enter Try.func24, Try.ntmps24
  go_wp2
  go_ret
  exact ⟨rfl, rfl⟩

/-- What find says: the leaf, a place, and whether q is there. -/
def RetFind (w : World) (nb : Nat) (zs : List Int) (q : Int) (e : Ending) (w' : World) : Prop :=
  ∃ (i m : Nat) (f : Bool), e = .returned (.tuple #[.pointer (some ⟨nb, 0, none⟩), .int .i64 i, .bool f]) ∧ w.drewN m = w' ∧ (f = true → i < zs.length ∧ zs.getD i 0 = q) ∧ (f = false → ∀ j, j < zs.length → zs.getD j 0 ≠ q)

set_option maxHeartbeats 1000000 in
theorem find18 (sb nb : Nat) (ka : Option Addr) (tv : Value) (zs : List Int) (q : Int) (w : World) (hR : RootIs w sb (some ⟨nb, 0, none⟩)) (hN : NodeIs w nb ka zs.length tv) (h : RdU w ka zs) (hA : Asc zs) (l : zs.length ≤ 1048576)
    (hz : ∀ i, 0 ≤ zs.getD i 0 ∧ zs.getD i 0 ≤ 18446744073709551615) (hn : 0 < zs.length) :
    Calls Try.prog 18 #[.pointer (some ⟨sb, 0, none⟩), .int .u64 q] w (RetFind w nb zs q) := by
  obtain ⟨x1, x2, x3, x4, hR⟩ := hR
  have c0 : w.cell? ⟨sb, 0, none⟩ = some (.pointer (some ⟨nb, 0, none⟩)) := by simp [World.cell?, hR]
  have k0 : w.cell? ⟨nb, 0, none⟩ = some (.slice ka zs.length zs.length) := by unfold NodeIs at hN; simp [World.cell?, hN]
  clear hR
  go_enter Try.func18, Try.ntmps18
  go_wp2_with fail
  refine wp_loop_rounds 1 ?_
  rw [rounds_succ]
  go_wp2_with (first | (go_at_call 22; refine (load22 nb ka zs.length tv _ hN).mono ?_; rintro e _ ⟨rfl, rfl⟩) | (go_at_call 24; refine (leaf24 nb ka zs.length tv _ hN).mono ?_; rintro e _ ⟨rfl, rfl⟩))
  refine (search25 ka zs.length zs q w h hA l hz hn).mono ?_
  rintro e _ ⟨i, rfl, rfl, hi, Hlo, Hhi⟩
  have HLO : Hid (∀ j, j < i → zs.getD j 0 < q) := Hlo
  have HHI : Hid (∀ j, i ≤ j → j < zs.length → q ≤ zs.getD j 0) := Hhi
  have HA : Hid (Asc zs) := hA
  clear Hlo Hhi hz hA
  by_cases hlt : i < zs.length
  · obtain ⟨b, o, x, rfl, hc1, Hx⟩ := h.get i hlt
    have hlt' : (i : Int) < (zs.length : Int) := by omega
    by_cases hy : x = q
    · subst hy
      go_wp2
      go_quiet (fail)
      go_wp2
      go_ret3
      exact ⟨i, nq, true, rfl, rfl, fun _ => ⟨hlt, Hx.out⟩, fun h => by cases h⟩
    · have HY : Hid (x ≠ q) := hy
      have hy' : (x == q) = false := by simpa using hy
      clear hy
      go_wp2
      go_quiet (fail)
      go_wp2
      go_ret3
      refine ⟨i, nq, false, rfl, rfl, (fun h => by cases h), fun _ j hj => ?_⟩
      have h1 := HHI.out i (Nat.le_refl _) hlt
      rw [Hx.out] at h1
      have h3 := HY.out
      rcases Nat.lt_or_ge j i with h' | h'
      · have := HLO.out j h'; omega
      · have := asc_le HA.out h' hj; rw [Hx.out] at this; omega
  · obtain rfl : i = zs.length := by omega
    have hd : decide ((zs.length : Int) < (zs.length : Int)) = false := by simp
    go_wp2
    go_quiet (fail)
    go_wp2
    go_ret3
    refine ⟨zs.length, nq, false, rfl, rfl, (fun h => by cases h), fun _ j hj => ?_⟩
    have := HLO.out j hj
    omega

/-- In an empty set. -/
theorem find18_nil (sb : Nat) (q : Int) (w : World) (hR : RootIs w sb none) :
    Calls Try.prog 18 #[.pointer (some ⟨sb, 0, none⟩), .int .u64 q] w (RetV w (.tuple #[.pointer none, .int .i64 0, .bool false])) := by
  obtain ⟨x1, x2, x3, x4, hR⟩ := hR
  have c0 : w.cell? ⟨sb, 0, none⟩ = some (.pointer none) := by simp [World.cell?, hR]
  clear hR
  go_enter Try.func18, Try.ntmps18
  go_wp2_with fail
  refine wp_loop_rounds 1 ?_
  rw [rounds_succ]
  go_wp2
  go_ret3
  exact ⟨rfl, rfl⟩

end Go.Proofs.Qxb6625633a
