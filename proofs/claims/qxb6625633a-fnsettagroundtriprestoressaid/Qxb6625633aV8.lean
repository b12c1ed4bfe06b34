import Derived.Test.Qxb6625633aV7
namespace Go.Proofs.Qxb6625633a
open Go.RowKit
set_option linter.unusedVariables false

set_option maxRecDepth 100000 in
set_option maxHeartbeats 4000000 in
theorem walk3 (a0 a1 : Option Addr) (c0 c1 : Nat) (zs gs : List Int) (q t : Int) (w : World) (n0 : a0 = none → c0 = 0) (n1 : a1 = none → c1 = 0) (h0 : RdU w a0 zs) (h1 : RdU w a1 gs)
    (z0 : ∀ i, 0 ≤ zs.getD i 0 ∧ zs.getD i 0 ≤ 18446744073709551615) (l0 : zs.length ≤ maxLen) (l1 : gs.length ≤ maxLen) :
    Calls Try.prog 3 #[.slice a0 zs.length c0, .slice a1 gs.length c1, .int .u64 q, .int .u64 t] w fun e w' => e = .returned (.bool true) ∧ Below w.heap.size w w' := by
  have kn := fun w a n c => Lib.run_eql_slice_nil (P := Try.prog) w 22 23 a n c 0 0 Try.underlying22
  have kq := fun w a n c => run_neq_slice_nil_any (P := Try.prog) w 22 23 a n c 0 0 Try.underlying22
  have Z0 : Hid (∀ i, 0 ≤ zs.getD i 0 ∧ zs.getD i 0 ≤ 18446744073709551615) := z0
  clear z0
  go_enter Try.func3, Try.ntmps3
  go_wp2_with fail
  refine (bytes5 a0 a1 zs.length c0 gs.length c1 _ _ w l0 l1).mono ?_
  rintro e _ ⟨b, m, rfl, rfl, hb⟩
  have B0 : Below w.heap.size w (w.drewN m) := below_drewN (Below.refl _ _) m
  generalize w.drewN m = w1 at B0 ⊢
  cases b with
  | false =>
    go_wp2
    go_ret
    exact ⟨rfl, B0⟩
  | true =>
  have hbd := hb rfl
  clear hb l0 l1
  by_cases hc0 : 65536 < zs.length
  · go_wp2
    go_ret
    exact ⟨rfl, B0⟩
  by_cases hc1 : 65536 < gs.length
  · go_wp2
    go_ret
    exact ⟨rfl, B0⟩
  have p0 : RdU w1 a0 zs := h0.keepB B0 (Nat.le_refl _)
  have p1 : RdU w1 a1 gs := h1.keepB B0 (Nat.le_refl _)
  clear h0 h1
  go_wp2_with fail
  refine (asc6 a0 c0 zs w1 p0 (by omega)).mono ?_
  rintro e _ ⟨b, m, rfl, rfl, hb⟩
  have B1 : Below w.heap.size w (w1.drewN m) := below_drewN B0 m
  have r0 : RdU (w1.drewN m) a0 zs := p0
  have r1 : RdU (w1.drewN m) a1 gs := p1
  clear p0 p1
  generalize w1.drewN m = w2 at B1 r0 r1 ⊢
  cases b with
  | false =>
    go_wp2
    go_ret
    exact ⟨rfl, B1⟩
  | true =>
  have HA : Hid (Asc zs) := hb rfl
  clear hb B0
  -- the tags: nil, or as many as keys and not all 0
  cases a1 with
  | none =>
    obtain rfl : c1 = 0 := n1 rfl
    have hgl : gs = [] := by
      rcases Nat.eq_zero_or_pos gs.length with h | h
      · exact List.eq_nil_of_length_eq_zero h
      · obtain ⟨b, o, e1, _⟩ := r1 0 h; cases e1
    subst hgl
    clear n1 r1
    by_cases hn : zs.length = 0
    · obtain rfl : zs = [] := List.eq_nil_of_length_eq_zero hn
      clear hn r0
      cases a0 with
      | none =>
        obtain rfl : c0 = 0 := n0 rfl
        clear n0
        go_wp2_with fail
        refine (clone8_nil w2).mono ?_
        rintro e _ ⟨rfl, rfl⟩
        go_wp2_with fail
        refine (clone8_nil w2).mono ?_
        rintro e _ ⟨rfl, rfl⟩
        go_wp2_with fail
        refine (clone8_nil w2).mono ?_
        rintro e _ ⟨rfl, rfl⟩
        go_wp2_with fail
        refine (ix9 none 0 [] q w2 (fun i hi => absurd hi (Nat.not_lt_zero _)) (Nat.zero_le _)).mono ?_
        rintro e _ ⟨r, rfl, rfl, hr⟩
        obtain rfl : r = -1 := by
          rcases hr with ⟨h, _⟩ | ⟨i, hi, _⟩
          · exact h
          · exact absurd hi (Nat.not_lt_zero _)
        clear hr
        go_wp2_with fail
        refine (empty10 w2).mono ?_
        rintro e w4 ⟨sb, rfl, hR, B4⟩
        go_wp2_with fail
        refine (zset11_nil sb q t w4 hR).mono ?_
        rintro e _ ⟨rfl, rfl⟩
        go_wp2_with fail
        refine (zset11_nil sb q 0 w4 hR).mono ?_
        rintro e _ ⟨rfl, rfl⟩
        go_wp2
        go_ret
        exact ⟨rfl, B1.trans (B4.mono B1.size)⟩
      | some a0 =>
        clear n0
        go_wp2_with fail
        refine (clone8 a0 c0 [] w2 (fun i hi => absurd hi (Nat.not_lt_zero _)) (Nat.zero_le _)).mono ?_
        rintro e w3 ⟨rfl, _, B3⟩
        have BW : Below w.heap.size w w3 := B1.trans (B3.mono B1.size)
        go_wp2_with fail
        refine (clone8_nil w3).mono ?_
        rintro e _ ⟨rfl, rfl⟩
        go_wp2_with fail
        refine (clone8_nil w3).mono ?_
        rintro e _ ⟨rfl, rfl⟩
        go_wp2_with fail
        refine (ix9 (some ⟨w2.heap.size, 0, none⟩) 0 [] q w3 (fun i hi => absurd hi (Nat.not_lt_zero _)) (Nat.zero_le _)).mono ?_
        rintro e _ ⟨r, rfl, rfl, hr⟩
        obtain rfl : r = -1 := by
          rcases hr with ⟨h, _⟩ | ⟨i, hi, _⟩
          · exact h
          · exact absurd hi (Nat.not_lt_zero _)
        clear hr
        go_wp2_with fail
        refine (empty10 w3).mono ?_
        rintro e w4 ⟨sb, rfl, hR, B4⟩
        go_wp2_with fail
        refine (zset11_nil sb q t w4 hR).mono ?_
        rintro e _ ⟨rfl, rfl⟩
        go_wp2_with fail
        refine (zset11_nil sb q 0 w4 hR).mono ?_
        rintro e _ ⟨rfl, rfl⟩
        go_wp2
        go_ret
        exact ⟨rfl, BW.trans (B4.mono BW.size)⟩
    · have hn0 : ((zs.length : Int) == 0) = false := beq_eq_false_iff_ne.2 (by omega)
      obtain ⟨ab, ao, e1, _⟩ := r0 0 (by omega)
      subst e1
      clear n0
      go_wp2_with fail
      refine (clone8 ⟨ab, ao, none⟩ c0 zs w2 r0 (by omega)).mono ?_
      rintro e w3 ⟨rfl, o3, B3⟩
      have BW3 : Below w.heap.size w w3 := B1.trans (B3.mono B1.size)
      have rk : RdU w3 (some ⟨w2.heap.size, 0, none⟩) zs := row_rd o3
      have lK := (o3.lt w2.heap.size rfl).2
      have lw := B1.size
      clear o3 B3 B1 r0
      generalize w2.heap.size = K at rk lK lw ⊢
      go_wp2_with fail
      refine (clone8_nil w3).mono ?_
      rintro e _ ⟨rfl, rfl⟩
      go_wp2_with fail
      refine (clone8_nil w3).mono ?_
      rintro e _ ⟨rfl, rfl⟩
      go_wp2_with fail
      refine (ix9 (some ⟨K, 0, none⟩) zs.length zs q w3 rk (by omega)).mono ?_
      rintro e _ ⟨r, rfl, rfl, hr⟩
      obtain ⟨ts, hts⟩ : ∃ ts, ts = List.replicate zs.length (0 : Int) := ⟨_, rfl⟩
      have HTS : Hid (ts = List.replicate zs.length (0 : Int)) := hts
      clear hts
      have HTL : Hid (ts.length = zs.length) := by rw [HTS.out]; exact List.length_replicate
      have HTZ : Hid (az ts = true) := by rw [HTS.out]; exact az_true (fun i hi => by simp at hi; simp [hi])
      rcases hr with ⟨rfl, Hno⟩ | ⟨i, hi, rfl, Hi⟩
      · have HN : Hid (∀ j, j < zs.length → zs.getD j 0 ≠ q) := Hno
        clear Hno
        go_wp2_with fail
        refine (new12 (some ⟨K, 0, none⟩) none zs.length 0 0 w3 (by omega)).mono ?_
        rintro e w4 ⟨sb, nb, rfl, hR, hN, g1, g2, g3, B4⟩
        have BW : Below w.heap.size w w4 := BW3.trans (B4.mono BW3.size)
        have hS := mkSet (ts := ts) hR hN (.inl ⟨rfl, HTZ.out⟩) HTL.out (rk.keepB B4 (Nat.le_refl _)) (by omega) g2 g3
        have hO : Col (Fz w4.heap.size nb (.slice none 0 0)) w4 (.slice none 0 0) ts := .inl ⟨rfl, HTZ.out⟩
        have hM := hO
        have lb := BW3.size
        have FB : ∀ k, k < w.heap.size → Fz w4.heap.size nb (.slice none 0 0) k := fun k hk => ⟨by omega, by omega, by simp [Value.ownBlock]⟩
        have ltt : ts.length ≤ 1048576 := by have := HTL.out; omega
        generalize Fz w4.heap.size nb (.slice none 0 0) = F at hS hO hM FB
        clear hR hN rk B4 BW3
        go_wp2_with fail
        refine (clone8_nil w4).mono ?_
        rintro e _ ⟨rfl, rfl⟩
        go_wp2_with fail
        refine (zset_no F sb nb _ zs ts _ q t w4 hS HA.out (by omega) Z0.out (by omega) HN.out).mono ?_
        rintro e wa ⟨tva, rfl, hSa, Ka⟩
        have Ca := hM.keep Ka
        go_wp2_with fail
        refine (leafTags14 sb nb _ zs.length tva wa hSa.root hSa.node).mono ?_
        rintro e _ ⟨rfl, rfl⟩
        go_wp2_with fail
        refine (same_any F F tva (.slice none 0 0) ts wa hSa.tags Ca (by omega)).mono ?_
        rintro e _ ⟨rfl, m1, rfl⟩
        have hSb := hSa.next ((Keep.refl F wa).drewN m1) hSa.node hSa.tags hSa.len
        have Kb := Ka.drewN m1
        generalize wa.drewN m1 = wb at hSb Kb ⊢
        clear hSa Ka Ca hM
        go_wp2_with fail
        refine (zset_no F sb nb _ zs ts tva q 0 wb hSb HA.out (by omega) Z0.out (by omega) HN.out).mono ?_
        rintro e wc ⟨tvc, rfl, hSc, Kc⟩
        have Cc := hO.keep (Kb.trans Kc)
        go_wp2_with fail
        refine (leafTags14 sb nb _ zs.length tvc wc hSc.root hSc.node).mono ?_
        rintro e _ ⟨rfl, rfl⟩
        go_wp2_with fail
        refine (same_any F F tvc (.slice none 0 0) ts wc hSc.tags Cc (by omega)).mono ?_
        rintro e _ ⟨rfl, m2, rfl⟩
        go_wp2
        go_ret
        exact ⟨rfl, below_drewN (Keep.below BW FB (Kb.trans Kc)) _⟩
      · have HI : Hid (zs.getD i 0 = q) := Hi
        clear Hi
        have hit : i < ts.length := by have := HTL.out; omega
        have HO : Hid (ts.getD i 0 = 0) := az_zero HTZ.out i
        go_wp2_with fail
        refine (new12 (some ⟨K, 0, none⟩) none zs.length 0 0 w3 (by omega)).mono ?_
        rintro e w4 ⟨sb, nb, rfl, hR, hN, g1, g2, g3, B4⟩
        go_wp2_with fail
        refine (clone8_nil w4).mono ?_
        rintro e _ ⟨rfl, rfl⟩
        obtain ⟨i0, hi0, hz0, hz1, hz2⟩ := info_parts Try.info23
        go_wp2_with (at_make; refine wpList_make_full _ rfl _ _ 22 rfl 0 23 i0 (.int .u64 0) 1 Try.underlying22 hi0 hz0 hz1 _ _ _ _ zs.length rfl rfl rfl rfl (by rw [hz2]; omega) (by unfold maxLen; omega) (Nat.zero_le _) ?_)
        intro w5 hown hgrow
        have hown1 : w5.ownsRow 0 23 1 (.slice (some ⟨w4.heap.size, 0, none⟩) ts.length zs.length) ts.length (ts.map (Value.int .u64)) := by
          rw [toList_madeCells_one] at hown
          have e1 : ts.map (Value.int .u64) = List.replicate zs.length (.int .u64 0) := by rw [HTS.out]; simp
          rw [HTL.out, e1]; exact hown
        have B5 : Below w4.heap.size w4 w5 := (Below.refl _ _).grown hgrow (Nat.le_refl _) (by simp)
        have cg : w5.cell? ⟨w4.heap.size, i, none⟩ = some (.int .u64 (ts.getD i 0)) := by rw [hown1.cellAt i (by omega)]; simp [hit]
        have fg : w5.frozen? ⟨w4.heap.size, i, none⟩ = false := hown1.frozenAt i
        have o6 := own_set (i := i) (t := t) hown1
        have B6 : Below w4.heap.size w4 (w5.setCell ⟨w4.heap.size, i, none⟩ (.int .u64 t)) := B5.setCell (Nat.le_refl _) _
        clear hown hgrow
        have hil : (i : Int) < (zs.length : Int) := by omega
        go_wp2_with fail
        generalize w5.setCell ⟨w4.heap.size, i, none⟩ (.int .u64 t) = w6 at o6 B6 ⊢
        have hml : (ts.set i t).length = zs.length := List.length_set.trans HTL.out
        have haz := az7 (some ⟨w4.heap.size, 0, none⟩) zs.length (ts.set i t) w6 (row_rd o6) (by rw [hml]; omega)
        rw [hml] at haz
        refine haz.mono ?_
        rintro e _ ⟨rfl, rfl⟩
        have HML : Hid ((ts.set i t).length = zs.length) := hml
        clear haz hml cg fg hown1 B5
        have BW : Below w.heap.size w w6 := (BW3.trans (B4.mono BW3.size)).trans (B6.mono (Nat.le_trans BW3.size B4.size))
        have b6 := B6.size
        have lb := BW3.size
        have hS := mkSet (W := w6) (ts := ts) (root_keepB hR B6 (Nat.le_refl _)) (node_keepB hN B6 (Nat.le_refl _)) (.inl ⟨rfl, HTZ.out⟩) HTL.out ((rk.keepB B4 (Nat.le_refl _)).keepB B6 (Nat.le_refl _)) (by omega) g2 (by omega)
        have hO : Col (Fz w6.heap.size nb (.slice none 0 0)) w6 (.slice none 0 0) ts := .inl ⟨rfl, HTZ.out⟩
        have FB : ∀ k, k < w.heap.size → Fz w6.heap.size nb (.slice none 0 0) k := fun k hk => ⟨by omega, by omega, by simp [Value.ownBlock]⟩
        have ltt : ts.length ≤ 1048576 := by have := HTL.out; omega
        have mc : az (ts.set i t) = false → Col (Fz w6.heap.size nb (.slice none 0 0)) w6 (.slice (some ⟨w4.heap.size, 0, none⟩) zs.length zs.length) (ts.set i t) := fun hz => by
          have := mkCol (nb := nb) (tv := .slice none 0 0) o6 hz (by omega) (by simp [Value.ownBlock])
          rwa [HML.out] at this
        have MC := mc
        generalize Fz w6.heap.size nb (.slice none 0 0) = F at hS hO FB MC
        clear mc hR hN rk B4 BW3 o6 B6
        cases hz : az (ts.set i t) with
        | true =>
          have hM : Col F w6 (.slice none 0 0) (ts.set i t) := .inl ⟨rfl, hz⟩
          clear MC hz
          go_wp2_with fail
          refine (zset_yes F sb nb _ zs ts _ q t 0 i w6 hS HA.out (by omega) Z0.out hi HI.out HO.out).mono ?_
          rintro e wa ⟨tva, rfl, hSa, Ka⟩
          have Ca := hM.keep Ka
          go_wp2_with fail
          refine (leafTags14 sb nb _ zs.length tva wa hSa.root hSa.node).mono ?_
          rintro e _ ⟨rfl, rfl⟩
          go_wp2_with fail
          refine (same_any F F tva (.slice none 0 0) (ts.set i t) wa hSa.tags Ca (by rw [List.length_set]; omega)).mono ?_
          rintro e _ ⟨rfl, m1, rfl⟩
          have hSb := hSa.next ((Keep.refl F wa).drewN m1) hSa.node hSa.tags hSa.len
          have Kb := Ka.drewN m1
          generalize wa.drewN m1 = wb at hSb Kb ⊢
          clear hSa Ka Ca hM
          go_wp2_with fail
          refine (zset_yes F sb nb _ zs (ts.set i t) tva q 0 t i wb hSb HA.out (by omega) Z0.out hi HI.out (getD_set hit)).mono ?_
          rintro e wc ⟨tvc, rfl, hSc, Kc⟩
          rw [set_back hit HO.out] at hSc
          have Cc := hO.keep (Kb.trans Kc)
          go_wp2_with fail
          refine (leafTags14 sb nb _ zs.length tvc wc hSc.root hSc.node).mono ?_
          rintro e _ ⟨rfl, rfl⟩
          go_wp2_with fail
          refine (same_any F F tvc (.slice none 0 0) ts wc hSc.tags Cc (by omega)).mono ?_
          rintro e _ ⟨rfl, m2, rfl⟩
          go_wp2
          go_ret
          exact ⟨rfl, below_drewN (Keep.below BW FB (Kb.trans Kc)) _⟩
        | false =>
          have hM := MC hz
          clear MC hz
          go_wp2_with fail
          refine (zset_yes F sb nb _ zs ts _ q t 0 i w6 hS HA.out (by omega) Z0.out hi HI.out HO.out).mono ?_
          rintro e wa ⟨tva, rfl, hSa, Ka⟩
          have Ca := hM.keep Ka
          go_wp2_with fail
          refine (leafTags14 sb nb _ zs.length tva wa hSa.root hSa.node).mono ?_
          rintro e _ ⟨rfl, rfl⟩
          go_wp2_with fail
          refine (same_any F F tva (.slice (some ⟨w4.heap.size, 0, none⟩) zs.length zs.length) (ts.set i t) wa hSa.tags Ca (by rw [List.length_set]; omega)).mono ?_
          rintro e _ ⟨rfl, m1, rfl⟩
          have hSb := hSa.next ((Keep.refl F wa).drewN m1) hSa.node hSa.tags hSa.len
          have Kb := Ka.drewN m1
          generalize wa.drewN m1 = wb at hSb Kb ⊢
          clear hSa Ka Ca hM
          go_wp2_with fail
          refine (zset_yes F sb nb _ zs (ts.set i t) tva q 0 t i wb hSb HA.out (by omega) Z0.out hi HI.out (getD_set hit)).mono ?_
          rintro e wc ⟨tvc, rfl, hSc, Kc⟩
          rw [set_back hit HO.out] at hSc
          have Cc := hO.keep (Kb.trans Kc)
          go_wp2_with fail
          refine (leafTags14 sb nb _ zs.length tvc wc hSc.root hSc.node).mono ?_
          rintro e _ ⟨rfl, rfl⟩
          go_wp2_with fail
          refine (same_any F F tvc (.slice none 0 0) ts wc hSc.tags Cc (by omega)).mono ?_
          rintro e _ ⟨rfl, m2, rfl⟩
          go_wp2
          go_ret
          exact ⟨rfl, below_drewN (Keep.below BW FB (Kb.trans Kc)) _⟩
  | some a1 =>
    clear n1
    by_cases hgl : gs.length = zs.length
    rotate_left
    · have hg' : ((gs.length : Int) != (zs.length : Int)) = true := by rw [bne_iff_ne]; omega
      go_wp2
      go_ret
      exact ⟨rfl, B1⟩
    have hg' : ((gs.length : Int) != (zs.length : Int)) = false := by rw [bne_eq_false_iff_eq]; omega
    have HGL : Hid (gs.length = zs.length) := hgl
    clear hgl
    go_wp2_with fail
    refine (az7 (some a1) c1 gs w2 r1 (by omega)).mono ?_
    rintro e _ ⟨rfl, rfl⟩
    cases hz : az gs with
    | true =>
      go_wp2
      go_ret
      exact ⟨rfl, B1⟩
    | false =>
    have HZ : Hid (az gs = false) := hz
    clear hz
    have hpos : 0 < zs.length := by
      rcases Nat.eq_zero_or_pos gs.length with h | h
      · have : gs = [] := List.eq_nil_of_length_eq_zero h
        have hz := HZ.out
        rw [this] at hz
        exact absurd hz (by decide)
      · have := HGL.out; omega
    have hn0 : ((zs.length : Int) == 0) = false := beq_eq_false_iff_ne.2 (by omega)
    obtain ⟨ab, ao, e1, _⟩ := r0 0 hpos
    subst e1
    clear n0
    go_wp2_with fail
    refine (clone8 ⟨ab, ao, none⟩ c0 zs w2 r0 (by omega)).mono ?_
    rintro e w3 ⟨rfl, o3, B3⟩
    have BW3 : Below w.heap.size w w3 := B1.trans (B3.mono B1.size)
    have rk : RdU w3 (some ⟨w2.heap.size, 0, none⟩) zs := row_rd o3
    have s1 : RdU w3 (some a1) gs := r1.keepB B3 (Nat.le_refl _)
    have lK := (o3.lt w2.heap.size rfl).2
    have lw := B1.size
    clear o3 B3 B1 r0 r1
    generalize w2.heap.size = K at rk lK lw ⊢
    go_wp2_with fail
    refine (clone8 a1 c1 gs w3 s1 (by omega)).mono ?_
    rintro e w4 ⟨rfl, o4, B4⟩
    have lT := (o4.lt w3.heap.size rfl).2
    have BW4 : Below w.heap.size w w4 := BW3.trans (B4.mono BW3.size)
    have rk4 : RdU w4 (some ⟨K, 0, none⟩) zs := rk.keepB B4 (Nat.le_refl _)
    have oT := own_zero o4
    have lw3 := BW3.size
    clear s1 rk o4 B4 BW3
    generalize w3.heap.size = T at oT lT lK lw3 ⊢
    go_wp2_with fail
    refine (clone8 ⟨T, 0, none⟩ gs.length gs w4 (row_rd oT) (by omega)).mono ?_
    rintro e w5 ⟨rfl, o5, B5⟩
    have lO := (o5.lt w4.heap.size rfl).2
    have BW5 : Below w.heap.size w w5 := BW4.trans (B5.mono BW4.size)
    have rk5 : RdU w5 (some ⟨K, 0, none⟩) zs := rk4.keepB B5 (Nat.le_refl _)
    have oT5 := own_keepB oT B5 (Nat.le_refl _)
    have oO := own_zero o5
    clear rk4 o5 B5 BW4 oT
    generalize w4.heap.size = O at oO lO lT ⊢
    go_wp2_with fail
    refine (ix9 (some ⟨K, 0, none⟩) zs.length zs q w5 rk5 (by omega)).mono ?_
    rintro e _ ⟨r, rfl, rfl, hr⟩
    rcases hr with ⟨rfl, Hno⟩ | ⟨i, hi, rfl, Hi⟩
    · have HN : Hid (∀ j, j < zs.length → zs.getD j 0 ≠ q) := Hno
      clear Hno
      go_wp2_with fail
      refine (new12 (some ⟨K, 0, none⟩) (some ⟨T, 0, none⟩) zs.length gs.length gs.length w5 (by omega)).mono ?_
      rintro e w6 ⟨sb, nb, rfl, hR, hN, g1, g2, g3, B6⟩
      have oO6 := own_keepB oO B6 (Nat.le_refl _)
      go_wp2_with fail
      refine (clone8 ⟨O, 0, none⟩ gs.length gs w6 (row_rd oO6) (by omega)).mono ?_
      rintro e w7 ⟨rfl, o7, B7⟩
      have B67 := B6.size
      have B77 := B7.size
      have lb := BW5.size
      have BW : Below w.heap.size w w7 := (BW5.trans (B6.mono BW5.size)).trans (B7.mono (Nat.le_trans BW5.size B6.size))
      have hS := mkSet (W := w7) (ts := gs) (root_keepB hR B7 (Nat.le_refl _)) (node_keepB hN B7 (Nat.le_refl _)) (.inr ⟨HZ.out, T, gs.length, rfl, own_keepB (own_keepB oT5 B6 (Nat.le_refl _)) B7 (Nat.le_refl _), by omega, by omega⟩) HGL.out ((rk5.keepB B6 (Nat.le_refl _)).keepB B7 (Nat.le_refl _)) (by omega) g2 (by omega)
      have hO : Col (Fz w7.heap.size nb (.slice (some ⟨T, 0, none⟩) gs.length gs.length)) w7 (.slice (some ⟨O, 0, none⟩) gs.length gs.length) gs := mkCol (own_keepB oO6 B7 (Nat.le_refl _)) HZ.out (by omega) (by simp [Value.ownBlock]; omega)
      have hM : Col (Fz w7.heap.size nb (.slice (some ⟨T, 0, none⟩) gs.length gs.length)) w7 (.slice (some ⟨w6.heap.size, 0, none⟩) gs.length gs.length) gs := mkCol (own_zero o7) HZ.out (by omega) (by simp [Value.ownBlock]; omega)
      have FB : ∀ k, k < w.heap.size → Fz w7.heap.size nb (.slice (some ⟨T, 0, none⟩) gs.length gs.length) k := fun k hk => ⟨by omega, by omega, by simp [Value.ownBlock]; omega⟩
      generalize Fz w7.heap.size nb (.slice (some ⟨T, 0, none⟩) gs.length gs.length) = F at hS hO hM FB
      clear hR hN rk5 oT5 oO oO6 o7 B6 B7 BW5
      go_wp2_with fail
      refine (zset_no F sb nb _ zs gs _ q t w7 hS HA.out (by omega) Z0.out (by omega) HN.out).mono ?_
      rintro e wa ⟨tva, rfl, hSa, Ka⟩
      have Ca := hM.keep Ka
      go_wp2_with fail
      refine (leafTags14 sb nb _ zs.length tva wa hSa.root hSa.node).mono ?_
      rintro e _ ⟨rfl, rfl⟩
      go_wp2_with fail
      refine (same_any F F tva (.slice (some ⟨w6.heap.size, 0, none⟩) gs.length gs.length) gs wa hSa.tags Ca (by omega)).mono ?_
      rintro e _ ⟨rfl, m1, rfl⟩
      have hSb := hSa.next ((Keep.refl F wa).drewN m1) hSa.node hSa.tags hSa.len
      have Kb := Ka.drewN m1
      generalize wa.drewN m1 = wb at hSb Kb ⊢
      clear hSa Ka Ca hM
      go_wp2_with fail
      refine (zset_no F sb nb _ zs gs tva q 0 wb hSb HA.out (by omega) Z0.out (by omega) HN.out).mono ?_
      rintro e wc ⟨tvc, rfl, hSc, Kc⟩
      have Cc := hO.keep (Kb.trans Kc)
      go_wp2_with fail
      refine (leafTags14 sb nb _ zs.length tvc wc hSc.root hSc.node).mono ?_
      rintro e _ ⟨rfl, rfl⟩
      go_wp2_with fail
      refine (same_any F F tvc (.slice (some ⟨O, 0, none⟩) gs.length gs.length) gs wc hSc.tags Cc (by omega)).mono ?_
      rintro e _ ⟨rfl, m2, rfl⟩
      go_wp2
      go_ret
      exact ⟨rfl, below_drewN (Keep.below BW FB (Kb.trans Kc)) _⟩
    · have HI : Hid (zs.getD i 0 = q) := Hi
      clear Hi
      have hit : i < gs.length := by have := HGL.out; omega
      obtain ⟨old, hold⟩ : ∃ old, gs.getD i 0 = old := ⟨_, rfl⟩
      have HO : Hid (gs.getD i 0 = old) := hold
      clear hold
      go_wp2_with fail
      refine (new12 (some ⟨K, 0, none⟩) (some ⟨T, 0, none⟩) zs.length gs.length gs.length w5 (by omega)).mono ?_
      rintro e w6 ⟨sb, nb, rfl, hR, hN, g1, g2, g3, B6⟩
      have oO6 := own_keepB oO B6 (Nat.le_refl _)
      have cO : w6.cell? ⟨O, i, none⟩ = some (.int .u64 old) := by rw [oO6.cellAt i (by omega), ← HO.out]; simp [hit]
      have hil : (i : Int) < (gs.length : Int) := by omega
      go_wp2_with fail
      refine (clone8 ⟨O, 0, none⟩ gs.length gs w6 (row_rd oO6) (by omega)).mono ?_
      rintro e w7 ⟨rfl, o7, B7⟩
      have cg : w7.cell? ⟨w6.heap.size, i, none⟩ = some (.int .u64 (gs.getD i 0)) := by rw [o7.cellAt i (by omega)]; simp [hit]
      have fg : w7.frozen? ⟨w6.heap.size, i, none⟩ = false := o7.frozenAt i
      have o8 := own_set (i := i) (t := t) (own_zero o7)
      have B8 : Below w6.heap.size w6 (w7.setCell ⟨w6.heap.size, i, none⟩ (.int .u64 t)) := B7.setCell (Nat.le_refl _) _
      clear cO B7 o7
      go_wp2_with fail
      generalize w7.setCell ⟨w6.heap.size, i, none⟩ (.int .u64 t) = w8 at o8 B8 ⊢
      have hml : (gs.set i t).length = gs.length := List.length_set
      have haz := az7 (some ⟨w6.heap.size, 0, none⟩) gs.length (gs.set i t) w8 (row_rd o8) (by rw [hml]; omega)
      rw [hml] at haz
      refine haz.mono ?_
      rintro e _ ⟨rfl, rfl⟩
      have HML : Hid ((gs.set i t).length = gs.length) := hml
      clear haz hml cg fg
      have B67 := B6.size
      have B88 := B8.size
      have lb := BW5.size
      have BW : Below w.heap.size w w8 := (BW5.trans (B6.mono BW5.size)).trans (B8.mono (Nat.le_trans BW5.size B6.size))
      have hS := mkSet (W := w8) (ts := gs) (root_keepB hR B8 (Nat.le_refl _)) (node_keepB hN B8 (Nat.le_refl _)) (.inr ⟨HZ.out, T, gs.length, rfl, own_keepB (own_keepB oT5 B6 (Nat.le_refl _)) B8 (Nat.le_refl _), by omega, by omega⟩) HGL.out ((rk5.keepB B6 (Nat.le_refl _)).keepB B8 (Nat.le_refl _)) (by omega) g2 (by omega)
      have hO : Col (Fz w8.heap.size nb (.slice (some ⟨T, 0, none⟩) gs.length gs.length)) w8 (.slice (some ⟨O, 0, none⟩) gs.length gs.length) gs := mkCol (own_keepB oO6 B8 (Nat.le_refl _)) HZ.out (by omega) (by simp [Value.ownBlock]; omega)
      have FB : ∀ k, k < w.heap.size → Fz w8.heap.size nb (.slice (some ⟨T, 0, none⟩) gs.length gs.length) k := fun k hk => ⟨by omega, by omega, by simp [Value.ownBlock]; omega⟩
      have MC : az (gs.set i t) = false → Col (Fz w8.heap.size nb (.slice (some ⟨T, 0, none⟩) gs.length gs.length)) w8 (.slice (some ⟨w6.heap.size, 0, none⟩) gs.length gs.length) (gs.set i t) := fun hz => by
        have := mkCol (nb := nb) (tv := .slice (some ⟨T, 0, none⟩) gs.length gs.length) o8 hz (by omega) (by simp [Value.ownBlock]; omega)
        rwa [HML.out] at this
      generalize Fz w8.heap.size nb (.slice (some ⟨T, 0, none⟩) gs.length gs.length) = F at hS hO FB MC
      clear hR hN rk5 oT5 oO oO6 o8 B6 B8 BW5
      cases hz : az (gs.set i t) with
      | true =>
        have hM : Col F w8 (.slice none 0 0) (gs.set i t) := .inl ⟨rfl, hz⟩
        clear MC hz
        go_wp2_with fail
        refine (zset_yes F sb nb _ zs gs _ q t old i w8 hS HA.out (by omega) Z0.out hi HI.out HO.out).mono ?_
        rintro e wa ⟨tva, rfl, hSa, Ka⟩
        have Ca := hM.keep Ka
        go_wp2_with fail
        refine (leafTags14 sb nb _ zs.length tva wa hSa.root hSa.node).mono ?_
        rintro e _ ⟨rfl, rfl⟩
        go_wp2_with fail
        refine (same_any F F tva (.slice none 0 0) (gs.set i t) wa hSa.tags Ca (by rw [List.length_set]; omega)).mono ?_
        rintro e _ ⟨rfl, m1, rfl⟩
        have hSb := hSa.next ((Keep.refl F wa).drewN m1) hSa.node hSa.tags hSa.len
        have Kb := Ka.drewN m1
        generalize wa.drewN m1 = wb at hSb Kb ⊢
        clear hSa Ka Ca hM
        go_wp2_with fail
        refine (zset_yes F sb nb _ zs (gs.set i t) tva q old t i wb hSb HA.out (by omega) Z0.out hi HI.out (getD_set hit)).mono ?_
        rintro e wc ⟨tvc, rfl, hSc, Kc⟩
        rw [set_back hit HO.out] at hSc
        have Cc := hO.keep (Kb.trans Kc)
        go_wp2_with fail
        refine (leafTags14 sb nb _ zs.length tvc wc hSc.root hSc.node).mono ?_
        rintro e _ ⟨rfl, rfl⟩
        go_wp2_with fail
        refine (same_any F F tvc (.slice (some ⟨O, 0, none⟩) gs.length gs.length) gs wc hSc.tags Cc (by omega)).mono ?_
        rintro e _ ⟨rfl, m2, rfl⟩
        go_wp2
        go_ret
        exact ⟨rfl, below_drewN (Keep.below BW FB (Kb.trans Kc)) _⟩
      | false =>
        have hM := MC hz
        clear MC hz
        go_wp2_with fail
        refine (zset_yes F sb nb _ zs gs _ q t old i w8 hS HA.out (by omega) Z0.out hi HI.out HO.out).mono ?_
        rintro e wa ⟨tva, rfl, hSa, Ka⟩
        have Ca := hM.keep Ka
        go_wp2_with fail
        refine (leafTags14 sb nb _ zs.length tva wa hSa.root hSa.node).mono ?_
        rintro e _ ⟨rfl, rfl⟩
        go_wp2_with fail
        refine (same_any F F tva (.slice (some ⟨w6.heap.size, 0, none⟩) gs.length gs.length) (gs.set i t) wa hSa.tags Ca (by rw [List.length_set]; omega)).mono ?_
        rintro e _ ⟨rfl, m1, rfl⟩
        have hSb := hSa.next ((Keep.refl F wa).drewN m1) hSa.node hSa.tags hSa.len
        have Kb := Ka.drewN m1
        generalize wa.drewN m1 = wb at hSb Kb ⊢
        clear hSa Ka Ca hM
        go_wp2_with fail
        refine (zset_yes F sb nb _ zs (gs.set i t) tva q old t i wb hSb HA.out (by omega) Z0.out hi HI.out (getD_set hit)).mono ?_
        rintro e wc ⟨tvc, rfl, hSc, Kc⟩
        rw [set_back hit HO.out] at hSc
        have Cc := hO.keep (Kb.trans Kc)
        go_wp2_with fail
        refine (leafTags14 sb nb _ zs.length tvc wc hSc.root hSc.node).mono ?_
        rintro e _ ⟨rfl, rfl⟩
        go_wp2_with fail
        refine (same_any F F tvc (.slice (some ⟨O, 0, none⟩) gs.length gs.length) gs wc hSc.tags Cc (by omega)).mono ?_
        rintro e _ ⟨rfl, m2, rfl⟩
        go_wp2
        go_ret
        exact ⟨rfl, below_drewN (Keep.below BW FB (Kb.trans Kc)) _⟩

end Go.Proofs.Qxb6625633a
