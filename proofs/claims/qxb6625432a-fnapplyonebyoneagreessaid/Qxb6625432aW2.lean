import Derived.Test.Qxb6625432aW1
namespace Go.Proofs.Qxb6625432a
open Go.RowKit

theorem Try.info9 : (Try.prog.info? 9).map (fun i => (i.zero, i.size, i.bytes)) = some (some (.string ByteArray.empty), 1, 16) := by kernel_rfl
theorem Try.info4 : (Try.prog.info? 4).map (fun i => (i.zero, i.size, i.bytes)) = some (some (.bool false), 1, 1) := by kernel_rfl

/-- The slice value at 'ao' reads, in w, as the bools fs. -/
def RdB (w : World) (ao : Option Addr) (fs : List Bool) : Prop :=
  ∀ i, i < fs.length → ∃ b o, ao = some ⟨b, o, none⟩ ∧ w.cell? ⟨b, o + i, none⟩ = some (.bool (fs.getD i false))

/-- What a clone holds after k rounds. -/
def cl {α : Type} (f : α → Value) (z : Value) (s : List α) (k : Nat) : List Value := (s.take k).map f ++ List.replicate (s.length - k) z

theorem cl_zero {α : Type} (f : α → Value) (z : Value) (s : List α) : cl f z s 0 = List.replicate s.length z := by simp [cl]
theorem cl_all {α : Type} (f : α → Value) (z : Value) (s : List α) : cl f z s s.length = s.map f := by simp [cl]
theorem cl_get {α : Type} (f : α → Value) (z : Value) (s : List α) (k : Nat) (h : k < s.length) : (cl f z s k)[k]? = some z := by
  unfold cl
  rw [List.getElem?_append_right (by simp; omega)]
  simp [Nat.min_eq_left (Nat.le_of_lt h)]
  rw [show s.length - k = (s.length - (k + 1)) + 1 by omega, List.replicate_succ]
  simp
theorem cl_set {α : Type} (f : α → Value) (z : Value) (s : List α) (k : Nat) (h : k < s.length) : (cl f z s k).set k (f s[k]) = cl f z s (k + 1) := by
  unfold cl
  have e : s.take (k + 1) = s.take k ++ [s[k]] := List.take_succ_eq_append_getElem h
  rw [List.set_append_right _ _ (by simp; omega), e, List.map_append]
  rw [show s.length - k = (s.length - (k + 1)) + 1 by omega, List.replicate_succ]
  simp [-List.map_take, Nat.min_eq_left (Nat.le_of_lt h)]

/-- It returns a slice of its own that holds xs; nothing old has turned. -/
def RetRow (w : World) (e : TypeId) (xs : List Value) (en : Ending) (w' : World) : Prop :=
  ∃ v, en = .returned v ∧ w'.ownsRow w.heap.size e 1 v xs.length xs ∧ Below w.heap.size w w'

theorem cloneS_some (a : Addr) (c : Nat) (s : List ByteArray) (w : World) (h0 : RdS w (some a) s) (l0 : s.length ≤ 1048576) :
    Calls Try.prog 7 #[.slice (some a) s.length c] w (RetRow w 9 (s.map Value.string)) := by
  obtain ⟨i0, hi, hz0, hz1, hz2⟩ := info_parts Try.info9
  have kn := fun w a n c => Lib.run_eql_slice_nil (P := Try.prog) w 22 9 a n c 0 0 Try.underlying22
  go_enter Try.func7, Try.ntmps7
  go_wp2_with (at_make; refine wpList_make_full _ rfl _ _ 22 rfl w.heap.size 9 i0 (.string ByteArray.empty) 1 Try.underlying22 hi hz0 hz1 _ _ _ _ s.length rfl rfl rfl rfl (by rw [hz2]; omega) (by unfold maxLen; omega) (Nat.le_refl _) ?_)
  intro w1 hown1 hgrow1
  have hown0 : w1.ownsRow w.heap.size 9 1 (.slice (some ⟨w.heap.size, 0, none⟩) s.length s.length) s.length (cl Value.string (.string ByteArray.empty) s 0) := by
    rw [cl_zero, ← toList_madeCells_one]; exact hown1
  have hb1 : Below w.heap.size w w1 := (Below.refl _ _).grown hgrow1 (Nat.le_refl _) (by simp)
  clear hown1 hgrow1
  go_wp2
  go_loopw [4] (fun i wr => ∃ k : Nat, k ≤ s.length ∧ i = .int .i64 k ∧ wr.ownsRow w.heap.size 9 1 (.slice (some ⟨w.heap.size, 0, none⟩) s.length s.length) s.length (cl Value.string (.string ByteArray.empty) s k) ∧ Below w.heap.size w wr)
    (fun i _ => s.length - (intOf i).toNat)
  case atStart => exact ⟨0, Nat.zero_le _, rfl, hown0, hb1⟩
  case round =>
    obtain ⟨k, hk, rfl, hown, hbel⟩ := hrel
    by_cases hlt : k < s.length
    · obtain ⟨b, o, hab, hcell0⟩ := h0 k hlt
      simp only [Option.some.injEq] at hab
      subst hab
      have hcell : wr.cell? ⟨b, o + k, none⟩ = some (Value.string (s.getD k ByteArray.empty)) := (hbel.cell (by exact World.block_lt_of_cell? w _ hcell0)).trans hcell0
      have hd : wr.cell? ⟨w.heap.size, k, none⟩ = some (.string ByteArray.empty) := (hown.cellAt k (by omega)).trans (cl_get _ _ s k hlt)
      have hf : wr.frozen? ⟨w.heap.size, k, none⟩ = false := hown.frozenAt k
      have R := hown.stored k (Value.string s[k])
      rw [cl_set _ _ s k hlt] at R
      have R1 := R.1
      have R2 : Below w.heap.size w (wr.setCell ⟨w.heap.size, k, none⟩ (Value.string s[k])) := hbel.setCell (Nat.le_refl _) _
      clear R hown hcell0 hown0 hb1
      go_wp2
      go_roundw
      case rel => exact ⟨k + 1, by omega, by go_num, R1, R2⟩
      case measure => simp [intOf]; omega
    · have hkk : k = s.length := by omega
      subst hkk
      rw [cl_all] at hown
      go_wp2
      go_ret
      exact ⟨_, rfl, by simpa using hown, hbel⟩

theorem cloneS_none (w : World) : Calls Try.prog 7 #[.slice none 0 0] w (RetRow w 9 []) := by
  have kn := fun w a n c => Lib.run_eql_slice_nil (P := Try.prog) w 22 9 a n c 0 0 Try.underlying22
  go_enter Try.func7, Try.ntmps7
  go_wp2
  go_ret
  exact ⟨_, rfl, World.ownsRow_nil _ _ _ _, Below.refl _ _⟩

theorem cloneB_some (a : Addr) (c : Nat) (s : List Bool) (w : World) (h0 : RdB w (some a) s) (l0 : s.length ≤ 1048576) :
    Calls Try.prog 8 #[.slice (some a) s.length c] w (RetRow w 4 (s.map Value.bool)) := by
  obtain ⟨i0, hi, hz0, hz1, hz2⟩ := info_parts Try.info4
  have kn := fun w a n c => Lib.run_eql_slice_nil (P := Try.prog) w 23 4 a n c 0 0 Try.underlying23
  go_enter Try.func8, Try.ntmps8
  go_wp2_with (at_make; refine wpList_make_full _ rfl _ _ 23 rfl w.heap.size 4 i0 (.bool false) 1 Try.underlying23 hi hz0 hz1 _ _ _ _ s.length rfl rfl rfl rfl (by rw [hz2]; omega) (by unfold maxLen; omega) (Nat.le_refl _) ?_)
  intro w1 hown1 hgrow1
  have hown0 : w1.ownsRow w.heap.size 4 1 (.slice (some ⟨w.heap.size, 0, none⟩) s.length s.length) s.length (cl Value.bool (.bool false) s 0) := by
    rw [cl_zero, ← toList_madeCells_one]; exact hown1
  have hb1 : Below w.heap.size w w1 := (Below.refl _ _).grown hgrow1 (Nat.le_refl _) (by simp)
  clear hown1 hgrow1
  go_wp2
  go_loopw [4] (fun i wr => ∃ k : Nat, k ≤ s.length ∧ i = .int .i64 k ∧ wr.ownsRow w.heap.size 4 1 (.slice (some ⟨w.heap.size, 0, none⟩) s.length s.length) s.length (cl Value.bool (.bool false) s k) ∧ Below w.heap.size w wr)
    (fun i _ => s.length - (intOf i).toNat)
  case atStart => exact ⟨0, Nat.zero_le _, rfl, hown0, hb1⟩
  case round =>
    obtain ⟨k, hk, rfl, hown, hbel⟩ := hrel
    by_cases hlt : k < s.length
    · obtain ⟨b, o, hab, hcell0⟩ := h0 k hlt
      simp only [Option.some.injEq] at hab
      subst hab
      have hcell : wr.cell? ⟨b, o + k, none⟩ = some (Value.bool (s.getD k false)) := (hbel.cell (by exact World.block_lt_of_cell? w _ hcell0)).trans hcell0
      have hd : wr.cell? ⟨w.heap.size, k, none⟩ = some (.bool false) := (hown.cellAt k (by omega)).trans (cl_get _ _ s k hlt)
      have hf : wr.frozen? ⟨w.heap.size, k, none⟩ = false := hown.frozenAt k
      have R := hown.stored k (Value.bool s[k])
      rw [cl_set _ _ s k hlt] at R
      have R1 := R.1
      have R2 : Below w.heap.size w (wr.setCell ⟨w.heap.size, k, none⟩ (Value.bool s[k])) := hbel.setCell (Nat.le_refl _) _
      clear R hown hcell0 hown0 hb1
      go_wp2
      go_roundw
      case rel => exact ⟨k + 1, by omega, by go_num, R1, R2⟩
      case measure => simp [intOf]; omega
    · have hkk : k = s.length := by omega
      subst hkk
      rw [cl_all] at hown
      go_wp2
      go_ret
      exact ⟨_, rfl, by simpa using hown, hbel⟩

theorem cloneB_none (w : World) : Calls Try.prog 8 #[.slice none 0 0] w (RetRow w 4 []) := by
  have kn := fun w a n c => Lib.run_eql_slice_nil (P := Try.prog) w 23 4 a n c 0 0 Try.underlying23
  go_enter Try.func8, Try.ntmps8
  go_wp2
  go_ret
  exact ⟨_, rfl, World.ownsRow_nil _ _ _ _, Below.refl _ _⟩

end Go.Proofs.Qxb6625432a
