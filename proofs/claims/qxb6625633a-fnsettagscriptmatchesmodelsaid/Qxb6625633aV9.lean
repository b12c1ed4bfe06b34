import Derived.Test.Qxb6625633aV7
import Derived.Deep.RegionWith
import Derived.Deep.DrawnRows
namespace Go.Proofs.Qxb6625633a
open Go.RowKit
set_option linter.unusedVariables false
attribute [local go_sem ↓] Go.wp_at_zero Go.wp_at_succ

theorem RootIs.keepF {F : Nat → Prop} {w w' : World} {sb : Nat} {r : Option Addr} (h : RootIs w sb r) (hk : Keep F w w') (hF : F sb) : RootIs w' sb r := by
  obtain ⟨x1, x2, x3, x4, hr⟩ := h
  exact ⟨x1, x2, x3, x4, (hk.block sb hF).trans hr⟩

/-- A store into a block of F that is none of the set's. -/
theorem SetOk.setM {F : Nat → Prop} {w : World} {sb nb M i : Nat} {ka : Option Addr} {zs ts : List Int} {tv u : Value} (h : SetOk F w sb nb ka zs ts tv) (hM : F M) (h1 : M ≠ sb) (h2 : ∀ b o, ka = some ⟨b, o, none⟩ → b ≠ M) : SetOk F (w.setCell ⟨M, i, none⟩ u) sb nb ka zs ts tv := by
  have hnm : nb ≠ M := fun e => h.nF (e ▸ hM)
  refine ⟨fun k hk => by simpa [World.setCell] using h.lt k hk, h.nF, h.sF, ?_, node_other h.node hnm, ?_, h.len, h.kF, fun j hj => ?_⟩
  · obtain ⟨x1, x2, x3, x4, hr⟩ := h.root
    exact ⟨x1, x2, x3, x4, by rw [Below.heap_setCell _ _ _ _ (Ne.symm h1)]; exact hr⟩
  · rcases h.tags with h' | ⟨h3, g, cap, h4, h5, h6⟩
    · exact .inl h'
    · exact .inr ⟨h3, g, cap, h4, ownsRow_setCell_other h5 (by simp only [Value.ownBlock, ne_eq, Option.some.injEq]; exact fun e => h6 (e ▸ hM)) _, h6⟩
  · obtain ⟨b, o, e1, hc⟩ := h.rd j hj
    refine ⟨b, o, e1, ?_⟩
    rw [World.cell?_of_block (a := ⟨b, o + j, none⟩) (w := w) (Below.heap_setCell _ _ _ _ (h2 b o e1))]
    exact hc

theorem Keep.sub {F G : Nat → Prop} {w w' : World} (h : Keep F w w') (hs : ∀ k, G k → F k) : Keep G w w' := ⟨h.os, h.tape, h.output, h.size, fun k hk => h.block k (hs k hk)⟩

theorem own_keepF {F : Nat → Prop} {w w' : World} {g n cap : Nat} {xs : List Value} (h : w.ownsRow 0 23 1 (.slice (some ⟨g, 0, none⟩) n cap) n xs) (hk : Keep F w w') (hF : F g) : w'.ownsRow 0 23 1 (.slice (some ⟨g, 0, none⟩) n cap) n xs := by
  refine ⟨h.1, ?_⟩
  rcases h.2 with hn | ⟨g', cap', cur, e1, hg, hh, rest⟩
  · exact .inl hn
  · refine .inr ⟨g', cap', cur, e1, Nat.zero_le _, ?_, rest⟩
    cases e1
    rw [hk.block g hF]; exact hh

set_option maxRecDepth 100000 in
set_option maxHeartbeats 4000000 in
theorem walk4 (a0 a1 a2 : Option Addr) (c0 c1 c2 : Nat) (zs ks xs : List Int) (w : World) (n0 : a0 = none → c0 = 0) (h0 : RdU w a0 zs) (h1 : RdU w a1 ks) (h2 : RdU w a2 xs)
    (z0 : ∀ i, 0 ≤ zs.getD i 0 ∧ zs.getD i 0 ≤ 18446744073709551615) (l0 : zs.length ≤ maxLen) (l1 : ks.length ≤ maxLen) (l2 : xs.length ≤ maxLen) :
    Calls Try.prog 4 #[.slice a0 zs.length c0, .slice a1 ks.length c1, .slice a2 xs.length c2] w fun e w' => e = .returned (.bool true) ∧ Below w.heap.size w w' := by
  have kn := fun w a n c => Lib.run_eql_slice_nil (P := Try.prog) w 22 23 a n c 0 0 Try.underlying22
  have Z0 : Hid (∀ i, 0 ≤ zs.getD i 0 ∧ zs.getD i 0 ≤ 18446744073709551615) := z0
  clear z0
  go_enter Try.func4, Try.ntmps4
  go_wp2_with fail
  refine (bytes15 a0 a1 a2 zs.length c0 ks.length c1 xs.length c2 w l0 l1 l2).mono ?_
  rintro e _ ⟨b, m, rfl, rfl, hb⟩
  have B0 : Below w.heap.size w (w.drewN m) := below_drewN (Below.refl _ _) m
  generalize w.drewN m = w1 at B0 ⊢
  cases b with
  | false =>
    go_wp2
    go_ret
    exact ⟨rfl, B0⟩
  | true =>
  have hbd := hb rfl
  clear hb l0 l1 l2
  by_cases hc0 : 4096 < zs.length
  · go_wp2
    go_ret
    exact ⟨rfl, B0⟩
  by_cases hc1 : 4096 < ks.length
  · go_wp2
    go_ret
    exact ⟨rfl, B0⟩
  by_cases hc2 : 4096 < xs.length
  · go_wp2
    go_ret
    exact ⟨rfl, B0⟩
  by_cases hkx : ks.length = xs.length
  rotate_left
  · have hg' : ((ks.length : Int) != (xs.length : Int)) = true := by rw [bne_iff_ne]; omega
    go_wp2
    go_ret
    exact ⟨rfl, B0⟩
  have hg' : ((ks.length : Int) != (xs.length : Int)) = false := by rw [bne_eq_false_iff_eq]; omega
  have HKX : Hid (ks.length = xs.length) := hkx
  clear hkx
  have p0 : RdU w1 a0 zs := h0.keepB B0 (Nat.le_refl _)
  have p1 : RdU w1 a1 ks := h1.keepB B0 (Nat.le_refl _)
  have p2 : RdU w1 a2 xs := h2.keepB B0 (Nat.le_refl _)
  clear h0 h1 h2
  go_wp2_with fail
  refine (asc6 a0 c0 zs w1 p0 (by omega)).mono ?_
  rintro e _ ⟨b, m, rfl, rfl, hb⟩
  have B1 : Below w.heap.size w (w1.drewN m) := below_drewN B0 m
  have r0 : RdU (w1.drewN m) a0 zs := p0
  have r1 : RdU (w1.drewN m) a1 ks := p1
  have r2 : RdU (w1.drewN m) a2 xs := p2
  clear p0 p1 p2
  generalize w1.drewN m = w2 at B1 r0 r1 r2 ⊢
  cases b with
  | false =>
    go_wp2
    go_ret
    exact ⟨rfl, B1⟩
  | true =>
  have HA : Hid (Asc zs) := hb rfl
  clear hb B0
  by_cases hn : zs.length = 0
  · obtain rfl : zs = [] := List.eq_nil_of_length_eq_zero hn
    clear hn r0
    cases a0 with
    | none =>
      obtain rfl : c0 = 0 := n0 rfl
      clear n0
      have s1 := r1
      have s2 := r2
      clear r1 r2
      go_wp2_with fail
      refine (clone8_nil w2).mono ?_
      rintro e _ ⟨rfl, rfl⟩
      go_wp2_with fail
      refine (empty10 w2).mono ?_
      rintro e w4 ⟨sb, rfl, hR, B4⟩
      have t1 : RdU w4 a1 ks := s1.keepB B4 (Nat.le_refl _)
      have t2 : RdU w4 a2 xs := s2.keepB B4 (Nat.le_refl _)
      have BW4 : Below w.heap.size w w4 := B1.trans (B4.mono B1.size)
      clear s1 s2 B4
      go_wp2_with fail
      go_loopw [8, 9, 10] (fun i _ _ wr => ∃ k : Nat, k ≤ ks.length ∧ i = .int .i64 k ∧ ∃ nq, wr = w4.drewN nq) (fun i _ _ _ => ks.length - (intOf i).toNat)
      case atStart => exact ⟨0, Nat.zero_le _, rfl, 0, rfl⟩
      case round =>
        obtain ⟨k, hk, rfl, nw, rfl⟩ := hrel
        by_cases hlt : k < ks.length
        · obtain ⟨b, o, x, rfl, hcx, _⟩ := t1.get k hlt
          obtain ⟨b', o', y, rfl, hcy, _⟩ := t2.get k (by have := HKX.out; omega)
          have hi0 : (k : Int) < (ks.length : Int) := by omega
          have hi1 : (k : Int) < (xs.length : Int) := by have := HKX.out; omega
          go_wp2_with fail
          go_region_with (go_at_call 11; refine (zset11_nil sb x y _ (by exact hR)).mono ?_; rintro e _ ⟨rfl, rfl⟩)
          all_goals
            go_wp2
            go_roundw
            case rel => exact ⟨k + 1, by omega, by go_num, nw + 1, rfl⟩
            case measure => simp [intOf]; omega
        · go_wp2
          go_ret
          exact ⟨rfl, below_drewN BW4 _⟩
    | some a0 =>
      clear n0
      go_wp2_with fail
      refine (clone8 a0 c0 [] w2 (fun i hi => absurd hi (Nat.not_lt_zero _)) (Nat.zero_le _)).mono ?_
      rintro e w3 ⟨rfl, _, B3⟩
      have BW : Below w.heap.size w w3 := B1.trans (B3.mono B1.size)
      have s1 := r1.keepB B3 (Nat.le_refl _)
      have s2 := r2.keepB B3 (Nat.le_refl _)
      clear r1 r2
      go_wp2_with fail
      refine (empty10 w3).mono ?_
      rintro e w4 ⟨sb, rfl, hR, B4⟩
      have t1 : RdU w4 a1 ks := s1.keepB B4 (Nat.le_refl _)
      have t2 : RdU w4 a2 xs := s2.keepB B4 (Nat.le_refl _)
      have BW4 : Below w.heap.size w w4 := BW.trans (B4.mono BW.size)
      clear s1 s2 B4
      go_wp2_with fail
      go_loopw [8, 9, 10] (fun i _ _ wr => ∃ k : Nat, k ≤ ks.length ∧ i = .int .i64 k ∧ ∃ nq, wr = w4.drewN nq) (fun i _ _ _ => ks.length - (intOf i).toNat)
      case atStart => exact ⟨0, Nat.zero_le _, rfl, 0, rfl⟩
      case round =>
        obtain ⟨k, hk, rfl, nw, rfl⟩ := hrel
        by_cases hlt : k < ks.length
        · obtain ⟨b, o, x, rfl, hcx, _⟩ := t1.get k hlt
          obtain ⟨b', o', y, rfl, hcy, _⟩ := t2.get k (by have := HKX.out; omega)
          have hi0 : (k : Int) < (ks.length : Int) := by omega
          have hi1 : (k : Int) < (xs.length : Int) := by have := HKX.out; omega
          go_wp2_with fail
          go_region_with (go_at_call 11; refine (zset11_nil sb x y _ (by exact hR)).mono ?_; rintro e _ ⟨rfl, rfl⟩)
          all_goals
            go_wp2
            go_roundw
            case rel => exact ⟨k + 1, by omega, by go_num, nw + 1, rfl⟩
            case measure => simp [intOf]; omega
        · go_wp2
          go_ret
          exact ⟨rfl, below_drewN BW4 _⟩
  · have hn0 : ((zs.length : Int) == 0) = false := beq_eq_false_iff_ne.2 (by omega)
    have hpos : 0 < zs.length := by omega
    obtain ⟨ab, ao, e1, _⟩ := r0 0 (by omega)
    subst e1
    clear n0
    go_wp2_with fail
    refine (clone8 ⟨ab, ao, none⟩ c0 zs w2 r0 (by omega)).mono ?_
    rintro e w3 ⟨rfl, o3, B3⟩
    have BW3 : Below w.heap.size w w3 := B1.trans (B3.mono B1.size)
    have rk : RdU w3 (some ⟨w2.heap.size, 0, none⟩) zs := row_rd o3
    have s1 : RdU w3 a1 ks := r1.keepB B3 (Nat.le_refl _)
    have s2 : RdU w3 a2 xs := r2.keepB B3 (Nat.le_refl _)
    have f1 : ∀ b o, 0 < ks.length → a1 = some ⟨b, o, none⟩ → b < w2.heap.size := fun b o hp e => by
      obtain ⟨b', o', e', hc⟩ := r1 0 hp
      rw [e] at e'; cases e'
      exact World.block_lt_of_cell? w2 _ hc
    have f2 : ∀ b o, 0 < xs.length → a2 = some ⟨b, o, none⟩ → b < w2.heap.size := fun b o hp e => by
      obtain ⟨b', o', e', hc⟩ := r2 0 hp
      rw [e] at e'; cases e'
      exact World.block_lt_of_cell? w2 _ hc
    have lK := (o3.lt w2.heap.size rfl).2
    have lw := B1.size
    clear o3 B3 B1 r0 r1 r2
    generalize w2.heap.size = K at rk lK lw f1 f2 ⊢
    go_wp2_with fail
    refine (new12 (some ⟨K, 0, none⟩) none zs.length 0 0 w3 (by omega)).mono ?_
    rintro e w4 ⟨sb, nb, rfl, hR, hN, g1, g2, g3, B4⟩
    obtain ⟨i0, hi0, hz0, hz1, hz2⟩ := info_parts Try.info23
    go_wp2_with (at_make; refine wpList_make_full _ rfl _ _ 22 rfl 0 23 i0 (.int .u64 0) 1 Try.underlying22 hi0 hz0 hz1 _ _ _ _ zs.length rfl rfl rfl rfl (by rw [hz2]; omega) (by unfold maxLen; omega) (Nat.zero_le _) ?_)
    intro w5 hown hgrow
    rw [toList_madeCells_one] at hown
    have e1 : (List.replicate zs.length (0 : Int)).map (Value.int .u64) = List.replicate zs.length (.int .u64 0) := by simp
    rw [← e1] at hown
    clear e1
    have B5 : Below w4.heap.size w4 w5 := (Below.refl _ _).grown hgrow (Nat.le_refl _) (by simp)
    have b5 := B5.size
    have lb := BW3.size
    have lM := (hown.lt w4.heap.size rfl).2
    have hTZ : az (List.replicate zs.length (0 : Int)) = true := az_true (fun i hi => by simp at hi; simp [hi])
    have hS := mkSet (W := w5) (ts := List.replicate zs.length (0 : Int)) (root_keepB hR B5 (Nat.le_refl _)) (node_keepB hN B5 (Nat.le_refl _)) (.inl ⟨rfl, hTZ⟩) List.length_replicate ((rk.keepB B4 (Nat.le_refl _)).keepB B5 (Nat.le_refl _)) (by omega) g2 (by omega)
    have BW5 : Below w.heap.size w w5 := (BW3.trans (B4.mono BW3.size)).trans (B5.mono (Nat.le_trans BW3.size B4.size))
    have FB : ∀ k, k < w.heap.size → Fz w5.heap.size nb (.slice none 0 0) k ∧ k ≠ w4.heap.size := fun k hk => ⟨⟨by omega, by omega, by simp [Value.ownBlock]⟩, by omega⟩
    have FK : ∀ k, k < K → Fz w5.heap.size nb (.slice none 0 0) k ∧ k ≠ w4.heap.size := fun k hk => ⟨⟨by omega, by omega, by simp [Value.ownBlock]⟩, by omega⟩
    have FM : Fz w5.heap.size nb (.slice none 0 0) w4.heap.size := ⟨by omega, by omega, by simp [Value.ownBlock]⟩
    have t1 : RdU w5 a1 ks := (s1.keepB B4 (Nat.le_refl _)).keepB B5 (Nat.le_refl _)
    have t2 : RdU w5 a2 xs := (s2.keepB B4 (Nat.le_refl _)).keepB B5 (Nat.le_refl _)
    have hMs : w4.heap.size ≠ sb := by omega
    have hMK : K ≠ w4.heap.size := by omega
    generalize Fz w5.heap.size nb (.slice none 0 0) = F at hS FB FK FM
    clear hR hN rk B4 B5 BW3 s1 s2 hgrow hTZ b5 lb lM g1 g2 g3 lK lw
    generalize w4.heap.size = M at *
    have HS : Hid (SetOk F w5 sb nb (some ⟨K, 0, none⟩) zs (List.replicate zs.length (0 : Int)) (.slice none 0 0)) := hS
    clear hS
    go_wp2_with fail
    go_loopw [13, 14, 15, 16] (fun i _ _ _ wr => ∃ (j : Nat) (ts : List Int) (tv : Value), j ≤ ks.length ∧ i = .int .i64 j ∧ SetOk F wr sb nb (some ⟨K, 0, none⟩) zs ts tv ∧ wr.ownsRow 0 23 1 (.slice (some ⟨M, 0, none⟩) zs.length zs.length) zs.length (ts.map (Value.int .u64)) ∧ Keep (fun k => F k ∧ k ≠ M) w5 wr)
      (fun i _ _ _ _ => ks.length - (intOf i).toNat)
    case atStart => exact ⟨0, _, _, Nat.zero_le _, rfl, HS.out, hown, Keep.refl _ _⟩
    case round =>
      obtain ⟨j, ts, tv, hj, rfl, hS, hM, hK⟩ := hrel
      clear HS hown
      by_cases hlt : j < ks.length
      · have HTL : Hid (ts.length = zs.length) := hS.len
        obtain ⟨b, o, x, rfl, hcx0, _⟩ := t1.get j hlt
        obtain ⟨b', o', y, rfl, hcy0, _⟩ := t2.get j (by have := HKX.out; omega)
        have fb := FK b (f1 b o (by omega) rfl)
        have fb' := FK b' (f2 b' o' (by have := HKX.out; omega) rfl)
        have hcx : wr.cell? ⟨b, o + j, none⟩ = some (.int .u64 x) := (World.cell?_of_block (a := ⟨b, o + j, none⟩) (hK.block b fb)).trans hcx0
        have hcy : wr.cell? ⟨b', o' + j, none⟩ = some (.int .u64 y) := (World.cell?_of_block (a := ⟨b', o' + j, none⟩) (hK.block b' fb')).trans hcy0
        have FBX : Hid (F b) := fb.1
        have FBY : Hid (F b') := fb'.1
        have hi0 : (j : Int) < (ks.length : Int) := by omega
        have hi1 : (j : Int) < (xs.length : Int) := by have := HKX.out; omega
        have ltt : ts.length ≤ 1048576 := by have := HTL.out; omega
        clear hcx0 hcy0 fb fb'
        go_wp2_with fail
        refine (ix9 (some ⟨K, 0, none⟩) zs.length zs x wr hS.rd (by omega)).mono ?_
        rintro e _ ⟨r, rfl, rfl, hr⟩
        rcases hr with ⟨rfl, Hno⟩ | ⟨i, hi, rfl, Hi⟩
        · have HN : Hid (∀ j, j < zs.length → zs.getD j 0 ≠ x) := Hno
          clear Hno
          have hSd : SetOk F wr.drew sb nb (some ⟨K, 0, none⟩) zs ts tv := hS.next ((Keep.refl F wr).drew) hS.node hS.tags hS.len
          go_wp2_with fail
          go_region_with (go_at_call 11; refine (zset_no F sb nb _ zs ts tv x y wr.drew hSd HA.out (by omega) Z0.out hpos HN.out).mono ?_; rintro e wa ⟨tva, rfl, hSa, Kd⟩; have Ka : Keep F wr wa := ((Keep.refl F wr).drew).trans Kd)
          all_goals
            have hMa := own_keepF hM Ka FM
            have hKa : Keep (fun k => F k ∧ k ≠ M) w5 wa := hK.trans (Ka.sub (fun k hk => hk.1))
            clear Ka Kd hM hK hS hSd
            go_wp2_with fail
            refine (leafTags14 sb nb _ zs.length tva wa hSa.root hSa.node).mono ?_
            rintro e _ ⟨rfl, rfl⟩
            go_wp2_with fail
            have hma := match16 F tva (some ⟨M, 0, none⟩) zs.length ts wa hSa.tags (row_rd (by rw [HTL.out]; exact hMa)) ltt
            rw [HTL.out] at hma
            refine hma.mono ?_
            rintro e _ ⟨rfl, m1, rfl⟩
            clear hma
            go_wp2
            go_roundw
            case rel => exact ⟨j + 1, ts, tva, by omega, by go_num, hSa.next ((Keep.refl F wa).drewN m1) hSa.node hSa.tags hSa.len, hMa, hKa.drewN _⟩
            case measure => simp [intOf]; omega
        · have HI : Hid (zs.getD i 0 = x) := Hi
          clear Hi
          have hit : i < ts.length := by have := HTL.out; omega
          obtain ⟨old, hold⟩ : ∃ old, ts.getD i 0 = old := ⟨_, rfl⟩
          have HO : Hid (ts.getD i 0 = old) := hold
          clear hold
          have hSd : SetOk F wr.drew sb nb (some ⟨K, 0, none⟩) zs ts tv := hS.next ((Keep.refl F wr).drew) hS.node hS.tags hS.len
          go_wp2_with fail
          go_region_with (go_at_call 11; refine (zset_yes F sb nb _ zs ts tv x y old i wr.drew hSd HA.out (by omega) Z0.out hi HI.out HO.out).mono ?_; rintro e wa ⟨tva, rfl, hSa, Kd⟩; have Ka : Keep F wr wa := ((Keep.refl F wr).drew).trans Kd)
          all_goals
            have hMa := own_keepF hM Ka FM
            have hKa : Keep (fun k => F k ∧ k ≠ M) w5 wa := hK.trans (Ka.sub (fun k hk => hk.1))
            have cM : wa.cell? ⟨M, i, none⟩ = some (.int .u64 old) := by rw [hMa.cellAt i (by omega), ← HO.out]; simp [hit]
            have fM : wa.frozen? ⟨M, i, none⟩ = false := hMa.frozenAt i
            have cy : wa.cell? ⟨b', o' + j, none⟩ = some (.int .u64 y) := (World.cell?_of_block (a := ⟨b', o' + j, none⟩) (Ka.block b' FBY.out)).trans hcy
            have hil : (i : Int) < (zs.length : Int) := by omega
            have hSb := hSa.setM (i := i) (u := .int .u64 y) FM hMs (fun b o e => by cases e; exact hMK)
            have hMb : (wa.setCell ⟨M, i, none⟩ (.int .u64 y)).ownsRow 0 23 1 (.slice (some ⟨M, 0, none⟩) zs.length zs.length) zs.length ((ts.set i y).map (Value.int .u64)) := by
              rw [List.map_set]; exact (hMa.stored i _).1
            have hKb : Keep (fun k => F k ∧ k ≠ M) w5 (wa.setCell ⟨M, i, none⟩ (.int .u64 y)) := hKa.setCell (fun h => h.2 rfl) _
            clear Ka Kd hM hK hS hSd hMa hKa hSa hcx hcy
            go_wp2_with fail
            generalize wa.setCell ⟨M, i, none⟩ (.int .u64 y) = wb at hSb hMb hKb ⊢
            clear cM fM cy
            refine (leafTags14 sb nb _ zs.length tva wb hSb.root hSb.node).mono ?_
            rintro e _ ⟨rfl, rfl⟩
            go_wp2_with fail
            have hml : (ts.set i y).length = zs.length := List.length_set.trans HTL.out
            have hma := match16 F tva (some ⟨M, 0, none⟩) zs.length (ts.set i y) wb hSb.tags (row_rd (by rw [hml]; exact hMb)) (by rw [hml]; omega)
            rw [hml] at hma
            clear hml
            refine hma.mono ?_
            rintro e _ ⟨rfl, m1, rfl⟩
            clear hma
            go_wp2
            go_roundw
            case rel => exact ⟨j + 1, ts.set i y, tva, by omega, by go_num, hSb.next ((Keep.refl F wb).drewN m1) hSb.node hSb.tags hSb.len, hMb, hKb.drewN _⟩
            case measure => simp [intOf]; omega
      · go_wp2
        go_ret
        exact ⟨rfl, Keep.below BW5 FB hK⟩

end Go.Proofs.Qxb6625633a
