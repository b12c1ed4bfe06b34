import Derived.Test.Qxb6625633aV5
namespace Go.Proofs.Qxb6625633a
open Go.RowKit
set_option linter.unusedVariables false

theorem zset11 (F : Nat → Prop) (sb nb : Nat) (ka : Option Addr) (zs ts : List Int) (tv : Value) (q t : Int) (w : World) (h : SetOk F w sb nb ka zs ts tv) (hA : Asc zs) (l : zs.length ≤ 1048576)
    (hz : ∀ i, 0 ≤ zs.getD i 0 ∧ zs.getD i 0 ≤ 18446744073709551615) (hn : 0 < zs.length) :
    Calls Try.prog 11 #[.pointer (some ⟨sb, 0, none⟩), .int .u64 q, .int .u64 t] w (RetSet F w sb nb ka zs ts q t) := by
  go_enter Try.func11, Try.ntmps11
  go_wp2_with fail
  refine (set17 F sb nb ka zs ts tv q t w h hA l hz hn).mono ?_
  rintro e w1 (⟨i, tv', h1, h2, rfl, h3, h4⟩ | ⟨tv', h1, rfl, h3, h4⟩)
  · generalize hold : ts.getD i 0 = old
    have HO : Hid (ts.getD i 0 = old) := hold
    have H2 : Hid (zs.getD i 0 = q) := h2
    clear hold h2 hz
    go_wp2
    go_ret2
    exact .inl ⟨i, tv', h1, H2.out, by rw [HO.out]; rfl, h3, h4⟩
  · have H1 : Hid (∀ j, j < zs.length → zs.getD j 0 ≠ q) := h1
    clear h1 hz
    go_wp2
    go_ret2
    exact .inr ⟨tv', H1.out, rfl, h3, h4⟩

/-- In an empty set nothing is found. -/
theorem zset11_nil (sb : Nat) (q t : Int) (w : World) (h : RootIs w sb none) :
    Calls Try.prog 11 #[.pointer (some ⟨sb, 0, none⟩), .int .u64 q, .int .u64 t] w (RetV w (.tuple #[.int .u64 0, .bool false])) := by
  have hs : Calls Try.prog 17 #[.pointer (some ⟨sb, 0, none⟩), .int .u64 q, .int .u64 t] w (RetV w (.tuple #[.int .u64 0, .bool false])) := by
    go_enter Try.func17, Try.ntmps17
    go_wp2_with fail
    refine (find18_nil sb q w h).mono ?_
    rintro e _ ⟨rfl, rfl⟩
    go_wp2
    go_ret2
    exact ⟨rfl, rfl⟩
  go_enter Try.func11, Try.ntmps11
  go_wp2_with fail
  refine hs.mono ?_
  rintro e _ ⟨rfl, rfl⟩
  go_wp2
  go_ret2
  exact ⟨rfl, rfl⟩

/-- A new empty set. -/
def RetEmpty (w : World) (e : Ending) (w' : World) : Prop := ∃ sb, e = .returned (.pointer (some ⟨sb, 0, none⟩)) ∧ RootIs w' sb none ∧ Below w.heap.size w w'
theorem empty10 (w : World) : Calls Try.prog 10 #[] w (RetEmpty w) := by
  go_enter Try.func10, Try.ntmps10
  go_wp2
  go_ret
  exact ⟨w.heap.size, rfl, ⟨_, _, _, _, heap_alloc_new w _⟩, (Below.refl _ _).alloc (Nat.le_refl _) _⟩

/-- A new set of one leaf. -/
def RetNew (w : World) (ka : Option Addr) (n : Nat) (tv : Value) (e : Ending) (w' : World) : Prop :=
  ∃ sb nb, e = .returned (.pointer (some ⟨sb, 0, none⟩)) ∧ RootIs w' sb (some ⟨nb, 0, none⟩) ∧ NodeIs w' nb ka n tv ∧ w.heap.size ≤ nb ∧ nb < sb ∧ sb < w'.heap.size ∧ Below w.heap.size w w'
theorem new12 (ka ta : Option Addr) (n tl tc : Nat) (w : World) (ln : n ≤ 1048576) :
    Calls Try.prog 12 #[.slice ka n n, .slice ta tl tc] w (RetNew w ka n (.slice ta tl tc)) := by
  go_enter Try.func12, Try.ntmps12
  go_wp2
  go_ret
  refine ⟨w.heap.size + 1, w.heap.size, rfl, ⟨.int .i64 n, .bool false, .int .u64 n, .nilIface, ?_⟩, ?_, Nat.le_refl _, Nat.lt_succ_self _, by simp, ((Below.refl _ _).alloc (Nat.le_refl _) _).alloc (by simp) _⟩
  · have := heap_alloc_new (w.alloc (.cells #[.slice ka n n, .slice ta tl tc, .slice none 0 0, .slice none 0 0, .slice none 0 0, .pointer none] 46)) (.cells #[.pointer (some ⟨w.heap.size, 0, none⟩), .int .i64 n, .bool false, .int .u64 n, .nilIface] 40)
    simpa using this
  · unfold NodeIs
    rw [Below.heap_alloc _ _ _ (by simp)]
    exact heap_alloc_new w _

theorem leafTags14 (sb nb : Nat) (ka : Option Addr) (n : Nat) (tv : Value) (w : World) (hR : RootIs w sb (some ⟨nb, 0, none⟩)) (hN : NodeIs w nb ka n tv) :
    Calls Try.prog 14 #[.pointer (some ⟨sb, 0, none⟩)] w (RetV w tv) := by
  obtain ⟨x1, x2, x3, x4, hR⟩ := hR
  have c0 : w.cell? ⟨sb, 0, none⟩ = some (.pointer (some ⟨nb, 0, none⟩)) := by simp [World.cell?, hR]
  have k1 : w.cell? ⟨nb, 1, none⟩ = some tv := by unfold NodeIs at hN; simp [World.cell?, hN]
  clear hR
  go_enter Try.func14, Try.ntmps14
  go_wp2
  go_ret
  exact ⟨rfl, rfl⟩

/-- What a clone holds after k rounds. -/
def cl (s : List Int) (k : Nat) : List Value := (s.take k).map (Value.int .u64) ++ List.replicate (s.length - k) (.int .u64 0)
theorem cl_zero (s : List Int) : cl s 0 = List.replicate s.length (.int .u64 0) := by simp [cl]
theorem cl_all (s : List Int) : cl s s.length = s.map (Value.int .u64) := by simp [cl]
theorem cl_get (s : List Int) (k : Nat) (h : k < s.length) : (cl s k)[k]? = some (.int .u64 0) := by
  unfold cl
  rw [List.getElem?_append_right (by simp; omega)]
  simp [Nat.min_eq_left (Nat.le_of_lt h)]
  rw [show s.length - k = (s.length - (k + 1)) + 1 by omega, List.replicate_succ]
  simp
theorem cl_set (s : List Int) (k : Nat) (h : k < s.length) : (cl s k).set k (.int .u64 (s.getD k 0)) = cl s (k + 1) := by
  unfold cl
  have e0 : s.getD k 0 = s[k] := by simp [h]
  have e : s.take (k + 1) = s.take k ++ [s[k]] := List.take_succ_eq_append_getElem h
  rw [List.set_append_right _ _ (by simp; omega), e, List.map_append, e0]
  rw [show s.length - k = (s.length - (k + 1)) + 1 by omega, List.replicate_succ]
  simp [-List.map_take, Nat.min_eq_left (Nat.le_of_lt h)]

/-- A clone. -/
def RetCl (w : World) (zs : List Int) (e : Ending) (w' : World) : Prop :=
  e = .returned (.slice (some ⟨w.heap.size, 0, none⟩) zs.length zs.length) ∧ w'.ownsRow w.heap.size 23 1 (.slice (some ⟨w.heap.size, 0, none⟩) zs.length zs.length) zs.length (zs.map (Value.int .u64)) ∧ Below w.heap.size w w'

theorem clone8 (a : Addr) (c : Nat) (s : List Int) (w : World) (h0 : RdU w (some a) s) (l0 : s.length ≤ 1048576) :
    Calls Try.prog 8 #[.slice (some a) s.length c] w (RetCl w s) := by
  obtain ⟨i0, hi, hz0, hz1, hz2⟩ := info_parts Try.info23
  have kn := fun w a n c => Lib.run_eql_slice_nil (P := Try.prog) w 22 23 a n c 0 0 Try.underlying22
  go_enter Try.func8, Try.ntmps8
  go_wp2_with (at_make; refine wpList_make_full _ rfl _ _ 22 rfl w.heap.size 23 i0 (.int .u64 0) 1 Try.underlying22 hi hz0 hz1 _ _ _ _ s.length rfl rfl rfl rfl (by rw [hz2]; omega) (by unfold maxLen; omega) (Nat.le_refl _) ?_)
  intro w1 hown1 hgrow1
  have hown0 : w1.ownsRow w.heap.size 23 1 (.slice (some ⟨w.heap.size, 0, none⟩) s.length s.length) s.length (cl s 0) := by
    rw [cl_zero, ← toList_madeCells_one]; exact hown1
  have hb1 : Below w.heap.size w w1 := (Below.refl _ _).grown hgrow1 (Nat.le_refl _) (by simp)
  clear hown1 hgrow1
  go_wp2
  go_loopw [4] (fun i wr => ∃ k : Nat, k ≤ s.length ∧ i = .int .i64 k ∧ wr.ownsRow w.heap.size 23 1 (.slice (some ⟨w.heap.size, 0, none⟩) s.length s.length) s.length (cl s k) ∧ Below w.heap.size w wr)
    (fun i _ => s.length - (intOf i).toNat)
  case atStart => exact ⟨0, Nat.zero_le _, rfl, hown0, hb1⟩
  case round =>
    obtain ⟨k, hk, rfl, hown, hbel⟩ := hrel
    by_cases hlt : k < s.length
    · obtain ⟨b, o, x, hab, hcell0, Hx⟩ := h0.get k hlt
      simp only [Option.some.injEq] at hab
      subst hab
      have hcell : wr.cell? ⟨b, o + k, none⟩ = some (.int .u64 x) := (hbel.cell (by exact World.block_lt_of_cell? w _ hcell0)).trans hcell0
      have hd : wr.cell? ⟨w.heap.size, k, none⟩ = some (.int .u64 0) := (hown.cellAt k (by omega)).trans (cl_get s k hlt)
      have hf : wr.frozen? ⟨w.heap.size, k, none⟩ = false := hown.frozenAt k
      have R := hown.stored k (.int .u64 x)
      have e2 := cl_set s k hlt
      rw [Hx.out] at e2
      rw [e2] at R
      have R1 := R.1
      have R2 : Below w.heap.size w (wr.setCell ⟨w.heap.size, k, none⟩ (.int .u64 x)) := hbel.setCell (Nat.le_refl _) _
      clear R hown hcell0 hown0 hb1 e2
      go_wp2
      go_roundw
      case rel => exact ⟨k + 1, by omega, by go_num, R1, R2⟩
      case measure => simp [intOf]; omega
    · have hkk : k = s.length := by omega
      subst hkk
      rw [cl_all] at hown
      go_wp2
      go_ret
      exact ⟨rfl, hown, hbel⟩

theorem clone8_nil (w : World) : Calls Try.prog 8 #[.slice none 0 0] w (RetV w (.slice none 0 0)) := by
  have kn := fun w a n c => Lib.run_eql_slice_nil (P := Try.prog) w 22 23 a n c 0 0 Try.underlying22
  go_enter Try.func8, Try.ntmps8
  go_wp2
  go_ret
  exact ⟨rfl, rfl⟩

/-- It returns v, having drawn some answers. -/
def RetD (w : World) (v : Value) (e : Ending) (w' : World) : Prop := e = .returned v ∧ ∃ n, w.drewN n = w'

theorem same13_nil (w : World) : Calls Try.prog 13 #[.slice none 0 0, .slice none 0 0] w (RetD w (.bool true)) := by
  have kn := fun w a n c => Lib.run_eql_slice_nil (P := Try.prog) w 22 23 a n c 0 0 Try.underlying22
  go_enter Try.func13, Try.ntmps13
  go_wp2
  refine wp_loop_rounds 1 ?_
  rw [rounds_succ]
  go_wp2
  go_ret
  exact ⟨rfl, 0, rfl⟩

set_option maxHeartbeats 400000 in
theorem same13 (a0 a1 : Addr) (c0 c1 : Nat) (zs : List Int) (w : World) (h0 : RdU w (some a0) zs) (h1 : RdU w (some a1) zs) (l0 : zs.length ≤ 1048576) :
    Calls Try.prog 13 #[.slice (some a0) zs.length c0, .slice (some a1) zs.length c1] w (RetD w (.bool true)) := by
  have kn := fun w a n c => Lib.run_eql_slice_nil (P := Try.prog) w 22 23 a n c 0 0 Try.underlying22
  go_enter Try.func13, Try.ntmps13
  go_wp2
  go_loopw [5] (fun i wr => ∃ k : Nat, k ≤ zs.length ∧ i = .int .i64 k ∧ ∃ nq, wr = w.drewN nq) (fun i _ => zs.length - (intOf i).toNat)
  case atStart => exact ⟨0, Nat.zero_le _, rfl, 0, rfl⟩
  case round =>
    obtain ⟨k, hk, rfl, n0, rfl⟩ := hrel
    by_cases hlt : k < zs.length
    · obtain ⟨b, o, x, e1, hc0, Hx⟩ := h0.get k hlt
      obtain ⟨b', o', y, e2, hc1, Hy⟩ := h1.get k hlt
      obtain rfl : x = y := Hx.out.symm.trans Hy.out
      simp only [Option.some.injEq] at e1 e2
      subst e1 e2
      have hi0 : (k : Int) < (zs.length : Int) := by omega
      go_wp2
      go_quiet (fail)
      go_wp2
      go_roundw
      case rel => exact ⟨k + 1, by omega, by go_num, _, rfl⟩
      case measure => simp [intOf]; omega
    · go_wp2
      go_ret
      exact ⟨rfl, n0, rfl⟩

set_option maxHeartbeats 400000 in
theorem match16 (F : Nat → Prop) (tv : Value) (ma : Option Addr) (mc : Nat) (ts : List Int) (w : World) (hT : Tags F w tv ts) (h1 : RdU w ma ts) (l0 : ts.length ≤ 1048576) :
    Calls Try.prog 16 #[tv, .slice ma ts.length mc] w (RetD w (.bool true)) := by
  have kn := fun w a n c => Lib.run_eql_slice_nil (P := Try.prog) w 22 23 a n c 0 0 Try.underlying22
  rcases hT with ⟨rfl, hz⟩ | ⟨hz, g, cap, rfl, hown, _⟩
  · go_enter Try.func16, Try.ntmps16
    go_wp2_with fail
    refine (az7 ma mc ts w h1 l0).mono ?_
    rintro e _ ⟨rfl, rfl⟩
    go_wp2
    go_ret
    exact ⟨rfl, 0, rfl⟩
  · have h0 := row_rd hown
    clear hown
    go_enter Try.func16, Try.ntmps16
    go_wp2_with fail
    refine (az7 ma mc ts w h1 l0).mono ?_
    rintro e _ ⟨rfl, rfl⟩
    go_wp2
    go_loopw [5] (fun i wr => ∃ k : Nat, k ≤ ts.length ∧ i = .int .i64 k ∧ ∃ nq, wr = w.drewN nq) (fun i _ => ts.length - (intOf i).toNat)
    case atStart => exact ⟨0, Nat.zero_le _, rfl, 0, rfl⟩
    case round =>
      obtain ⟨k, hk, rfl, n0, rfl⟩ := hrel
      by_cases hlt : k < ts.length
      · obtain ⟨b, o, x, e1, hc0, Hx⟩ := h0.get k hlt
        cases e1
        rw [Nat.zero_add] at hc0
        obtain ⟨b', o', y, rfl, hc1, Hy⟩ := h1.get k hlt
        obtain rfl : x = y := Hx.out.symm.trans Hy.out
        have hi0 : (k : Int) < (ts.length : Int) := by omega
        go_wp2
        go_quiet (fail)
        go_wp2
        go_roundw
        case rel => exact ⟨k + 1, by omega, by go_num, _, rfl⟩
        case measure => simp [intOf]; omega
      · go_wp2
        go_ret
        exact ⟨rfl, n0, rfl⟩

end Go.Proofs.Qxb6625633a
