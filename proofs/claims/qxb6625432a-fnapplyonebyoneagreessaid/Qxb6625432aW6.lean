import Derived.Test.Qxb6625432aW5
namespace Go.Proofs.Qxb6625432a
open Go.RowKit
set_option linter.unusedVariables false

/-- Option i of the list. -/
def optAt (ss : List ByteArray) (fs : List Bool) (i : Nat) : Option ByteArray := if fb fs i = true then none else some (ss.getD i ByteArray.empty)
def optsOf (ss : List ByteArray) (fs : List Bool) : List (Option ByteArray) := (List.range ss.length).map (optAt ss fs)

theorem optsOf_length (ss : List ByteArray) (fs : List Bool) : (optsOf ss fs).length = ss.length := by simp [optsOf]
theorem optsOf_get (ss : List ByteArray) (fs : List Bool) (i : Nat) (h : i < ss.length) : (optsOf ss fs).getD i none = optAt ss fs i := by simp [optsOf, h]

theorem IsOpt.grown {w w' : World} {top top' g : Nat} {u : Value} {o : Option ByteArray} {cs : Array Value} (h : IsOpt w top u o) (hg : w.grownBy w' (some g)) (hc : w.heap[g]? = some (.cells cs 42 (0, 0))) (ht : top ≤ top') : IsOpt w' top' u o := by
  rcases h with h | ⟨s, b, h1, h2, h3, h4⟩
  · exact .inl h
  · refine .inr ⟨s, b, h1, by omega, h3, ?_⟩
    rw [hg.block b (lt_of_block h4) (fun e => ?_)]
    · exact h4
    · obtain rfl := Option.some.inj e
      rw [h4] at hc
      simp at hc

/-- The options that have been laid after k rounds. -/
def OptRow (w : World) (lo g cap k : Nat) (f : Nat → Option ByteArray) : Prop :=
  ∃ xs, w.ownsRow lo 42 1 (.slice (some ⟨g, 0, none⟩) k cap) k xs ∧ ∀ i, i < k → ∃ u, xs[i]? = some u ∧ IsOpt w w.heap.size u (f i)

theorem OptRow.step {w w' : World} {lo g cap k : Nat} {f : Nat → Option ByteArray} {xs : List Value} {u : Value} (h : w.ownsRow lo 42 1 (.slice (some ⟨g, 0, none⟩) k cap) k xs) (hi : ∀ i, i < k → ∃ u, xs[i]? = some u ∧ IsOpt w w.heap.size u (f i))
    (hu : IsOpt w w.heap.size u (f k)) (hown : w'.ownsRow lo 42 1 (.slice (some ⟨g, 0, none⟩) (k + 1) cap) (k + 1) (xs ++ [u])) (hg : w.grownBy w' (some g)) : OptRow w' lo g cap (k + 1) f := by
  have hc : ∃ cs, w.heap[g]? = some (.cells cs 42 (0, 0)) := by
    rcases h.2 with ⟨h', _⟩ | ⟨g', cap', cur, h', _, hh, _⟩
    · cases h'
    · simp only [Value.slice.injEq, Option.some.injEq, Addr.mk.injEq, and_true, true_and] at h'
      obtain ⟨rfl, rfl⟩ := h'
      exact ⟨cur, hh⟩
  obtain ⟨cs, hc⟩ := hc
  have hl : xs.length = k := by simpa using h.1
  refine ⟨_, hown, fun i hik => ?_⟩
  rcases Nat.lt_or_ge i k with h' | h'
  · obtain ⟨x, hx, hx'⟩ := hi i h'
    exact ⟨x, by rw [List.getElem?_append_left (by omega)]; exact hx, hx'.grown hg hc hg.size⟩
  · obtain rfl : i = k := by omega
    exact ⟨u, by rw [List.getElem?_append_right (by omega), hl]; simp, hu.grown hg hc hg.size⟩

theorem IsOpt.mono {w w' : World} {u : Value} {o : Option ByteArray} (h : IsOpt w w.heap.size u o) (hb : Below w.heap.size w w') : IsOpt w' w'.heap.size u o := by
  rcases h with h | ⟨s, b, h1, h2, h3, h4⟩
  · exact .inl h
  · exact .inr ⟨s, b, h1, by have := hb.size; omega, h3, (hb.block b h2).trans h4⟩

/-- The options, laid. -/
def RetOpts (w : World) (n : Nat) (os : List (Option ByteArray)) (e : Ending) (w' : World) : Prop := ∃ g, e = .returned (.slice (some ⟨g, 0, none⟩) n n) ∧ RdO w' w'.heap.size (some ⟨g, 0, none⟩) os ∧ Below w.heap.size w w'

theorem refuse19 (w : World) : Calls Try.prog 19 #[] w fun e w' => e = .returned (.func (.func 22) #[] #[]) ∧ w = w' := by
  go_enter Try.func19, Try.ntmps19
  go_wp2
  go_ret
  exact ⟨rfl, rfl⟩

theorem append20 (s : ByteArray) (w : World) : Calls Try.prog 20 #[.string s] w fun e w' => e = .returned (.func (.func 24) #[] #[.pointer (some ⟨w.heap.size, 0, none⟩)]) ∧ w.alloc (.cells #[.string s] 9) = w' := by
  go_enter Try.func20, Try.ntmps20
  go_wp2
  go_ret
  exact ⟨rfl, rfl⟩

set_option maxHeartbeats 1000000 in
theorem opts9 (a0 a1 : Option Addr) (c0 c1 : Nat) (ss : List ByteArray) (fs : List Bool) (w : World) (h0 : RdS w a0 ss) (h1 : RdB w a1 fs) (ln : ss.length ≤ 1048576) (lf : fs.length ≤ 1048576) :
    Calls Try.prog 9 #[.slice a0 ss.length c0, .slice a1 fs.length c1] w (RetOpts w ss.length (optsOf ss fs)) := by
  obtain ⟨i0, hi, hz0, hz1, hz2⟩ := info_parts Try.info42
  go_enter Try.func9, Try.ntmps9
  go_wp2_with (at_make; refine wpList_make_own _ rfl _ _ 28 rfl w.heap.size 42 i0 .nilFunc 1 Try.underlying28 hi hz0 hz1 _ _ _ ss.length rfl rfl rfl (by rw [hz2]; omega) (by unfold maxLen; omega) (Nat.le_refl _) ?_)
  intro w1 hown1 hgrow1
  have hb1 : Below w.heap.size w w1 := (Below.refl _ _).grown hgrow1 (Nat.le_refl _) (by simp)
  have R1 : OptRow w1 w.heap.size w.heap.size ss.length 0 (optAt ss fs) := ⟨[], hown1, fun i hi => absurd hi (Nat.not_lt_zero _)⟩
  clear hown1 hgrow1
  go_wp2_with fail
  go_loopw [5, 6] (fun v i wr => ∃ k : Nat, k ≤ ss.length ∧ i = .int .i64 k ∧ v = .slice (some ⟨w.heap.size, 0, none⟩) k ss.length ∧ OptRow wr w.heap.size w.heap.size ss.length k (optAt ss fs) ∧ Below w.heap.size w wr)
    (fun _ i _ => ss.length - (intOf i).toNat)
  case atStart => exact ⟨0, Nat.zero_le _, rfl, rfl, R1, hb1⟩
  case round =>
    obtain ⟨k, hk, rfl, rfl, ⟨xs, hown, hopts⟩, hbel⟩ := hrel
    by_cases hlt : k < ss.length
    · have h1r : RdB wr a1 fs := fun i hi => by
        obtain ⟨b, o, e1, hc⟩ := h1 i hi
        exact ⟨b, o, e1, (hbel.cell (World.block_lt_of_cell? w _ hc)).trans hc⟩
      obtain ⟨b, o, rfl, hcell0⟩ := h0 k hlt
      have hcell : wr.cell? ⟨b, o + k, none⟩ = some (.string (ss.getD k ByteArray.empty)) := (hbel.cell (World.block_lt_of_cell? w _ hcell0)).trans hcell0
      clear R1 hb1 hcell0
      by_cases hy : fb fs k = true
      · have HY : Hid (optAt ss fs k = none) := by unfold optAt; rw [if_pos hy]; rfl
        go_wp2_with (first | (go_at_call 18; refine (refused18 _ _ _ _ _ h1r lf (by omega)).mono ?_; rintro e w' ⟨rfl, rfl⟩) | (go_at_call 19; refine (refuse19 _).mono ?_; rintro e w' ⟨rfl, rfl⟩) | (at_builtin; refine wpList_append_fits _ rfl _ _ 28 rfl w.heap.size 42 i0 1 Try.underlying28 hi hz1 w.heap.size k ss.length xs rfl (hown.alloc _) ⟨_, 0, none⟩ 1 1 [.func (.func 22) #[] #[]] rfl rfl (World.news_of_block (cs := #[.func (.func 22) #[] #[]]) (t := 42) (fr := (0, 0)) (heap_alloc_new _ _)) (by simp [Value.oneCell']) (by omega) ?_; intro w2 hown2 hgrow2))
        go_roundw
        case rel =>
          have hal : Below wr.heap.size wr (wr.alloc (.cells #[.func (.func 22) #[] #[]] 42)) := (Below.refl _ _).alloc (Nat.le_refl _) _
          refine ⟨k + 1, by omega, by go_num, rfl, OptRow.step (hown.alloc _) (fun i hi => ?_) (.inl ⟨HY.out, rfl⟩) hown2 hgrow2, ?_⟩
          · obtain ⟨u, h, h'⟩ := hopts i hi
            exact ⟨u, h, h'.mono hal⟩
          · exact (hbel.alloc hbel.size _).grown hgrow2 (by have := hbel.size; simp; omega) (fun k hk => by cases hk; exact Nat.le_refl _)
        case measure => simp [intOf]; omega
      · have hy' : fb fs k = false := by simpa using hy
        have HY : Hid (optAt ss fs k = some (ss.getD k ByteArray.empty)) := by unfold optAt; rw [if_neg hy]; rfl
        clear hy
        generalize ss.getD k ByteArray.empty = sk at hcell HY
        have hnew : ((wr.alloc (.cells #[.string sk] 9)).alloc (.cells #[.func (.func 24) #[] #[.pointer (some ⟨wr.heap.size, 0, none⟩)]] 42)).heap[wr.heap.size + 1]? = some (.cells #[.func (.func 24) #[] #[.pointer (some ⟨wr.heap.size, 0, none⟩)]] 42 (0, 0)) := by
          have := heap_alloc_new (wr.alloc (.cells #[.string sk] 9)) (.cells #[.func (.func 24) #[] #[.pointer (some ⟨wr.heap.size, 0, none⟩)]] 42)
          simpa using this
        have HN : Hid (((wr.alloc (.cells #[.string sk] 9)).alloc (.cells #[.func (.func 24) #[] #[.pointer (some ⟨wr.heap.size, 0, none⟩)]] 42)).heap[wr.heap.size + 1]? = some (.cells #[.func (.func 24) #[] #[.pointer (some ⟨wr.heap.size, 0, none⟩)]] 42 (0, 0))) := hnew
        clear hnew
        go_wp2_with (first | (go_at_call 18; refine (refused18 _ _ _ _ _ h1r lf (by omega)).mono ?_; rintro e w' ⟨rfl, rfl⟩) | (go_at_call 20; refine (append20 _ _).mono ?_; rintro e w'' ⟨rfl, rfl⟩) | (at_builtin; refine wpList_append_fits _ rfl _ _ 28 rfl w.heap.size 42 i0 1 Try.underlying28 hi hz1 w.heap.size k ss.length xs rfl ((hown.alloc _).alloc _) ⟨wr.heap.size + 1, 0, none⟩ 1 1 [.func (.func 24) #[] #[.pointer (some ⟨wr.heap.size, 0, none⟩)]] rfl rfl (World.news_of_block HN.out) (by simp [Value.oneCell']) (by omega) ?_; intro w2 hown2 hgrow2))
        go_roundw
        case rel =>
          have hal : Below wr.heap.size wr ((wr.alloc (.cells #[.string sk] 9)).alloc (.cells #[.func (.func 24) #[] #[.pointer (some ⟨wr.heap.size, 0, none⟩)]] 42)) := ((Below.refl _ _).alloc (Nat.le_refl _) _).alloc (by simp) _
          have hbox : ((wr.alloc (.cells #[.string sk] 9)).alloc (.cells #[.func (.func 24) #[] #[.pointer (some ⟨wr.heap.size, 0, none⟩)]] 42)).heap[wr.heap.size]? = some (.cells #[.string sk] 9 (0, 0)) := by
            rw [Below.heap_alloc _ _ _ (by simp)]; exact heap_alloc_new wr _
          refine ⟨k + 1, by omega, by go_num, rfl, OptRow.step ((hown.alloc _).alloc _) (fun i hi => ?_) (.inr ⟨sk, wr.heap.size, HY.out, by simp; omega, rfl, hbox⟩) hown2 hgrow2, ?_⟩
          · obtain ⟨u, h, h'⟩ := hopts i hi
            exact ⟨u, h, h'.mono hal⟩
          · exact ((hbel.alloc hbel.size _).alloc (by have := hbel.size; simp; omega) _).grown hgrow2 (by have := hbel.size; simp; omega) (fun k hk => by cases hk; exact Nat.le_refl _)
        case measure => simp [intOf]; omega
    · obtain rfl : k = ss.length := by omega
      go_wp2
      go_ret
      refine ⟨w.heap.size, rfl, fun i hi => ?_, hbel⟩
      rw [optsOf_length] at hi
      obtain ⟨u, h, h'⟩ := hopts i hi
      refine ⟨w.heap.size, 0, u, rfl, (hown.lt w.heap.size rfl).2, ?_, by rw [optsOf_get _ _ _ hi]; exact h'⟩
      rw [Nat.zero_add, hown.cellAt i (by omega)]; exact h

theorem take_snoc (ss : List ByteArray) (j : Nat) (h : j < ss.length) : (ss.take j).map Value.string ++ [.string (ss.getD j ByteArray.empty)] = (ss.take (j + 1)).map Value.string := by
  have e : ss.getD j ByteArray.empty = ss[j] := by simp [h]
  rw [e, List.take_succ_eq_append_getElem h, List.map_append]
  rfl

set_option maxHeartbeats 1000000 in
theorem want13 (a0 a1 : Option Addr) (c0 c1 : Nat) (ss tt : List ByteArray) (k : Nat) (w : World) (h0 : RdS w a0 ss) (h1 : RdS w a1 tt) (ls : ss.length ≤ 1048576) (lt : tt.length ≤ 1048576) (hk : k ≤ tt.length) :
    Calls Try.prog 13 #[.slice a0 ss.length c0, .slice a1 tt.length c1, .int .i64 k] w (RetRow w 9 ((ss ++ tt.take k).map Value.string)) := by
  obtain ⟨i0, hi, hz0, hz1, hz2⟩ := info_parts Try.info9
  go_enter Try.func13, Try.ntmps13
  go_wp2_with (at_make; refine wpList_make_own _ rfl _ _ 22 rfl w.heap.size 9 i0 (.string ByteArray.empty) 1 Try.underlying22 hi hz0 hz1 _ _ _ (ss.length + k) rfl rfl (by omega) (by rw [hz2]; omega) (by unfold maxLen; omega) (Nat.le_refl _) ?_)
  intro w1 hown1 hgrow1
  have hb1 : Below w.heap.size w w1 := (Below.refl _ _).grown hgrow1 (Nat.le_refl _) (by simp)
  clear hgrow1
  go_wp2_with fail
  go_loopw [7, 8] (fun v i wr => ∃ j : Nat, j ≤ ss.length ∧ i = .int .i64 j ∧ v = .slice (some ⟨w.heap.size, 0, none⟩) j (ss.length + k) ∧ wr.ownsRow w.heap.size 9 1 (.slice (some ⟨w.heap.size, 0, none⟩) j (ss.length + k)) j ((ss.take j).map Value.string) ∧ Below w.heap.size w wr)
    (fun _ i _ => ss.length - (intOf i).toNat)
  case atStart => exact ⟨0, Nat.zero_le _, rfl, rfl, hown1, hb1⟩
  case round =>
    obtain ⟨j, hj, rfl, rfl, hown, hbel⟩ := hrel
    clear hown1 hb1
    by_cases hlt : j < ss.length
    · obtain ⟨b, o, rfl, hcell0⟩ := h0 j hlt
      have hcell : wr.cell? ⟨b, o + j, none⟩ = some (.string (ss.getD j ByteArray.empty)) := (hbel.cell (World.block_lt_of_cell? w _ hcell0)).trans hcell0
      clear hcell0
      have HS : Hid ((ss.take j).map Value.string ++ [.string (ss.getD j ByteArray.empty)] = (ss.take (j + 1)).map Value.string) := take_snoc ss j hlt
      generalize ss.getD j ByteArray.empty = sk at hcell HS
      go_wp2_with (at_builtin; refine wpList_append_fits _ rfl _ _ 22 rfl w.heap.size 9 i0 1 Try.underlying22 hi hz1 w.heap.size j (ss.length + k) _ rfl (hown.alloc _) ⟨wr.heap.size, 0, none⟩ 1 1 [.string sk] rfl rfl (World.news_of_block (heap_alloc_new wr _)) (by simp [Value.oneCell']) (by omega) ?_; intro w2 hown2 hgrow2)
      go_roundw
      case rel =>
        refine ⟨j + 1, by omega, by go_num, rfl, by rw [← HS.out]; exact hown2, ?_⟩
        exact (hbel.alloc hbel.size _).grown hgrow2 (by have := hbel.size; simp; omega) (fun k hk => by cases hk; exact Nat.le_refl _)
      case measure => simp [intOf]; omega
    · obtain rfl : j = ss.length := by omega
      obtain ⟨wo, rfl⟩ : ∃ wo : World, wo = wr := ⟨_, rfl⟩
      rw [List.take_length] at hown
      go_wp2_with fail
      go_loopw [7, 9] (fun v i wr => ∃ j : Nat, j ≤ k ∧ i = .int .i64 j ∧ v = .slice (some ⟨w.heap.size, 0, none⟩) (ss.length + j) (ss.length + k) ∧ wr.ownsRow w.heap.size 9 1 (.slice (some ⟨w.heap.size, 0, none⟩) (ss.length + j) (ss.length + k)) (ss.length + j) ((ss ++ tt.take j).map Value.string) ∧ Below w.heap.size w wr)
        (fun _ i _ => k - (intOf i).toNat)
      case atStart => exact ⟨0, Nat.zero_le _, rfl, rfl, by simpa using hown, hbel⟩
      case round =>
        clear hown hbel
        obtain ⟨j, hj, rfl, rfl, hown, hbel⟩ := hrel
        by_cases hlt : j < k
        · obtain ⟨b, o, rfl, hcell0⟩ := h1 j (by omega)
          have hcell : wr.cell? ⟨b, o + j, none⟩ = some (.string (tt.getD j ByteArray.empty)) := (hbel.cell (World.block_lt_of_cell? w _ hcell0)).trans hcell0
          clear hcell0
          have HS : Hid ((ss ++ tt.take j).map Value.string ++ [.string (tt.getD j ByteArray.empty)] = (ss ++ tt.take (j + 1)).map Value.string) := by
            have h := take_snoc tt j (by omega)
            show _ = _
            rw [List.map_append, List.append_assoc, h, ← List.map_append]
          generalize tt.getD j ByteArray.empty = sk at hcell HS
          go_wp2_with (at_builtin; refine wpList_append_fits _ rfl _ _ 22 rfl w.heap.size 9 i0 1 Try.underlying22 hi hz1 w.heap.size (ss.length + j) (ss.length + k) _ rfl (hown.alloc _) ⟨wr.heap.size, 0, none⟩ 1 1 [.string sk] rfl rfl (World.news_of_block (heap_alloc_new wr _)) (by simp [Value.oneCell']) (by omega) ?_; intro w2 hown2 hgrow2)
          go_roundw
          case rel =>
            refine ⟨j + 1, by omega, by go_num, rfl, by rw [← HS.out]; exact hown2, ?_⟩
            exact (hbel.alloc hbel.size _).grown hgrow2 (by have := hbel.size; simp; omega) (fun k hk => by cases hk; exact Nat.le_refl _)
          case measure => simp [intOf]; omega
        · obtain rfl : j = k := by omega
          go_wp2
          go_ret
          refine ⟨_, rfl, ?_, hbel⟩
          rw [show ((ss ++ tt.take j).map Value.string).length = ss.length + j by simp; omega]
          exact hown

end Go.Proofs.Qxb6625432a
