import Derived.Test.Qxb6625432aW7
namespace Go.Proofs.Qxb6625432a
open Go.RowKit
set_option linter.unusedVariables false

set_option maxRecDepth 100000 in
set_option maxHeartbeats 4000000 in
theorem walk3 (a0 a1 a2 : Option Addr) (c0 c1 c2 : Nat) (s0 s1 : List ByteArray) (fs : List Bool) (cut : Int) (w : World)
    (n0 : a0 = none → c0 = 0) (n1 : a1 = none → c1 = 0) (n2 : a2 = none → c2 = 0) (h0 : RdS w a0 s0) (h1 : RdS w a1 s1) (h2 : RdB w a2 fs)
    (z0 : ∀ i, (s0.getD i ByteArray.empty).size ≤ maxLen) (z1 : ∀ i, (s1.getD i ByteArray.empty).size ≤ maxLen) (l0 : s0.length ≤ maxLen) (l1 : s1.length ≤ maxLen) (l2 : fs.length ≤ maxLen) :
    Calls Try.prog 3 #[.slice a0 s0.length c0, .slice a1 s1.length c1, .slice a2 fs.length c2, .int .i64 cut] w fun e w' => e = .returned (.bool true) ∧ Below w.heap.size w w' := by
  go_enter Try.func3, Try.ntmps3
  go_wp2_with fail
  refine (bytes5 a0 a1 a2 c0 c1 fs.length c2 s0 s1 cut _ h0 h1 z0 z1 l0 l1 l2).mono ?_
  rintro e _ ⟨b, rfl, rfl, hb⟩
  cases b with
  | false =>
    go_wp2
    go_ret
    exact ⟨rfl, Below.refl _ _⟩
  | true =>
  have hbd := hb rfl
  clear hb
  go_wp2_with fail
  refine (within6 a0 a1 a2 c0 c1 fs.length c2 s0 s1 _ h0 h1 z0 z1 l0 l1 l2).mono ?_
  rintro e _ ⟨b, rfl, rfl, _⟩
  cases b with
  | false =>
    go_wp2
    go_ret
    exact ⟨rfl, Below.refl _ _⟩
  | true =>
  clear z0 z1 l0 l1 l2
  by_cases hc0 : cut < 0
  · go_wp2
    go_ret
    exact ⟨rfl, Below.refl _ _⟩
  by_cases hc1 : (s1.length : Int) < cut
  · go_wp2
    go_ret
    exact ⟨rfl, Below.refl _ _⟩
  obtain ⟨ct, rfl⟩ := Int.eq_ofNat_of_zero_le (show 0 ≤ cut by omega)
  have hct : ct ≤ s1.length := by omega
  clear hc0 hc1
  go_wp2_with fail
  refine (clS a0 c0 s0 w n0 h0 (by omega)).mono ?_
  rintro e w1 ⟨b0, d0, rfl, _, r0, m0, B1⟩
  go_wp2_with fail
  refine (clS a1 c1 s1 w1 n1 (h1.keep B1 (Nat.le_refl _)) (by omega)).mono ?_
  rintro e w2 ⟨b1, d1, rfl, _, r1, m1, B2⟩
  go_wp2_with fail
  refine (clB a2 c2 fs w2 n2 ((h2.keep B1 (Nat.le_refl _)).keep B2 (Nat.le_refl _)) (by omega)).mono ?_
  rintro e w3 ⟨b2, d2, rfl, r2, B3⟩
  have q0 : RdS w3 b0 s0 := (r0.keep B2 (Nat.le_refl _)).keep B3 (Nat.le_refl _)
  have q1 : RdS w3 b1 s1 := r1.keep B3 (Nat.le_refl _)
  have Bw3 : Below w.heap.size w w3 := (B1.trans (B2.mono B1.size)).trans (B3.mono (Nat.le_trans B1.size B2.size))
  clear h0 h1 h2 n0 n1 n2 r0 r1 B1 B2 B3
  go_wp2_with fail
  refine (opts9 b1 b2 d1 d2 s1 fs w3 q1 r2 (by omega) (by omega)).mono ?_
  rintro e w4 ⟨g, rfl, RO, B4⟩
  have p0 : RdS w4 b0 s0 := q0.keep B4 (Nat.le_refl _)
  have p1 : RdS w4 b1 s1 := q1.keep B4 (Nat.le_refl _)
  have p2 : RdB w4 b2 fs := r2.keep B4 (Nat.le_refl _)
  have Bw4 : Below w.heap.size w w4 := Bw3.trans (B4.mono Bw3.size)
  clear q0 q1 r2 Bw3 B4
  go_wp2_with fail
  refine (first10 b1 b2 s1.length d1 d2 fs w4 p2 (by omega) (by omega)).mono ?_
  rintro e _ ⟨k, rfl, rfl, hFR⟩
  have hkn := hFR.1
  go_wp2_with fail
  refine (clS b0 d0 s0 w4 m0 p0 (by omega)).mono ?_
  rintro e w5 ⟨b5, d5, rfl, o5, _, _, B5⟩
  go_wp2_with fail
  refine (newCols11 w4.heap.size _ s0 w5 o5 B5.size).mono ?_
  rintro e w6 ⟨pw, rfl, C6, B6⟩
  have B46 : Below w4.heap.size w4 w6 := B5.trans (B6.mono B5.size)
  go_wp2_with fail
  refine (zapply w4.heap.size pw w4.heap.size (some ⟨g, 0, none⟩) s1.length s1.length (optsOf s1 fs) (optsOf_length _ _) s0 0 w6 (RO.keep B46 (Nat.le_refl _)) C6 (Nat.le_refl _) B46.size (by omega) (by omega) (by omega)).mono ?_
  rintro e w7 ⟨k1, f1, nm1, v1, rfl, E1, A1, C7, B7⟩
  have B47 : Below w4.heap.size w4 w7 := B46.trans B7
  have F1 := applied_fr A1
  obtain rfl : k1 = k := FR.uniq F1.1 hFR
  rw [Nat.zero_add, F1.2.2] at C7
  rw [F1.2.2] at A1
  have Hf1 : Hid (f1 = decide (k1 < s1.length)) := F1.2.1
  clear F1 nm1
  have p7 : RdS w7 b0 s0 := p0.keep B47 (Nat.le_refl _)
  clear B5 B6 B46 B7 C6 o5
  go_wp2_with fail
  refine (clS b0 d0 s0 w7 m0 p7 (by omega)).mono ?_
  rintro e w8 ⟨b8, d8, rfl, o8, _, _, B8⟩
  go_wp2_with fail
  refine (newCols11 w7.heap.size _ s0 w8 o8 B8.size).mono ?_
  rintro e w9 ⟨ps, rfl, C9, B9⟩
  have B79 : Below w7.heap.size w7 w9 := B8.trans (B9.mono B8.size)
  have B49 : Below w4.heap.size w4 w9 := B47.trans (B79.mono B47.size)
  clear B8 B9 o8
  go_wp2_with fail
  have l79 := B79.size
  have l47 := B47.size
  refine (zapply w7.heap.size ps w4.heap.size (some ⟨g, 0, none⟩) s1.length ct ((optsOf s1 fs).take ct) (by rw [List.length_take, optsOf_length]; omega) s0 0 w9 ((RO.keep B49 (Nat.le_refl _)).take ct) C9 l47 l79 (by omega) (by omega) (by omega)).mono ?_
  rintro e w10 ⟨ka, fa, na, va, rfl, E2, A2, C10, B10⟩
  have B710 : Below w7.heap.size w7 w10 := B79.trans B10
  rw [Nat.zero_add] at C10
  clear C9 B79 B49 B10 p7
  rcases E2 with ⟨rfl, rfl⟩ | ⟨rfl, g2, rfl⟩
  · have B410 : Below w4.heap.size w4 w10 := B47.trans (B710.mono l47)
    have hka := A2.1
    have hna : na.length ≤ ka := by rw [A2.2.1]; exact names_len _ _
    rw [List.length_take, optsOf_length] at hka
    have l710 := B710.size
    by_cases hcn : ct < s1.length
    · have hcn' : ¬ s1.length = ct := by omega
      go_wp2_with fail
      refine (zapply w7.heap.size ps w4.heap.size (some ⟨g, ct, none⟩) (s1.length - ct) (s1.length - ct) ((optsOf s1 fs).drop ct) (by rw [List.length_drop, optsOf_length]) (s0 ++ na) ka w10 ((RO.keep B410 (Nat.le_refl _)).drop ct (fun _ => rfl)) C10 l47 l710 (by omega) (by rw [List.length_append]; omega) (by omega)).mono ?_
      rintro e w11 ⟨kb, fb', nb, vb, rfl, E3, A3, C11, B11⟩
      have J := applied_uniq (applied_join (by rw [optsOf_length]; omega) A2 A3) A1
      rw [List.append_assoc, J.1, J.2.2] at C11
      have B711 : Below w7.heap.size w7 w11 := B710.trans B11
      obtain ⟨rfl⟩ : fb' = f1 := J.2.1
      clear J A2 A3 B11 B710 B410 C10 hka hna l710
      have CX := C11
      clear C11
      rcases E3 with ⟨rfl, rfl⟩ | ⟨rfl, g3, rfl⟩
      · rcases E1 with ⟨_, rfl⟩ | ⟨hf, _⟩
        · have hkk : ¬ k1 < s1.length := of_decide_eq_false Hf1.out.symm
          have B4x : Below w4.heap.size w4 w11 := B47.trans (B711.mono l47)
          have t0 : RdS w11 b0 s0 := p0.keep B4x (Nat.le_refl _)
          have t1 : RdS w11 b1 s1 := p1.keep B4x (Nat.le_refl _)
          have C7x : Cols w11 w4.heap.size pw (s0 ++ s1.take k1) k1 := C7.keep B711 (Nat.le_refl _)
          clear RO p0 p1 p2 C7 B47
          go_wp2_with fail
          refine (want13 b0 b1 d0 d1 s0 s1 k1 w11 t0 t1 (by omega) (by omega) hkn).mono ?_
          rintro e wz ⟨vz, rfl, oz, Bz⟩
          obtain ⟨az, cz, rfl, rz, _⟩ := Rw.strs ⟨oz, fun k hk => (oz.lt k hk).2⟩
          have Cw := C7x.keep Bz (Nat.le_refl _)
          have Cs := CX.keep Bz (Nat.le_refl _)
          have Bwz : Below w.heap.size w wz := (Bw4.trans (B4x.mono Bw4.size)).trans (Bz.mono (Nat.le_trans Bw4.size B4x.size))
          have ll : (s0 ++ s1.take k1).length ≤ 2097152 := by rw [List.length_append, List.length_take]; omega
          generalize s0 ++ s1.take k1 = L at *
          clear C7x CX t0 t1 oz Bz B4x Bw4
          go_wp2_with fail
          refine (names15 _ pw L k1 wz Cw).mono ?_
          rintro e _ ⟨ax, cx, rfl, rx, rfl⟩
          go_wp2_with fail
          refine (eq14 ax az cx cz L wz rx rz ll).mono ?_
          rintro e _ ⟨rfl, nq, rfl⟩
          have Cs1 : Cols (wz.drewN nq) w7.heap.size ps L k1 := Cs
          have Cw1 : Cols (wz.drewN nq) w4.heap.size pw L k1 := Cw
          go_wp2_with fail
          refine (names15 _ ps L k1 _ Cs1).mono ?_
          rintro e _ ⟨ay, cy, rfl, ry, rfl⟩
          go_wp2_with fail
          refine (eq14 ay az cy cz L _ ry (rz.keep (below_drewN (Below.refl wz.heap.size wz) nq) (Nat.le_refl _)) ll).mono ?_
          rintro e _ ⟨rfl, nq2, rfl⟩
          have Cs2 : Cols (wz.drewN (nq + nq2)) w7.heap.size ps L k1 := Cs1
          have Cw2 : Cols (wz.drewN (nq + nq2)) w4.heap.size pw L k1 := Cw1
          go_wp2_with fail
          refine (vlen16 _ pw L k1 _ Cw2).mono ?_
          rintro e _ ⟨rfl, rfl⟩
          go_wp2_with fail
          refine (vlen16 _ ps L k1 _ Cs2).mono ?_
          rintro e _ ⟨rfl, rfl⟩
          go_wp2
          go_ret
          exact ⟨rfl, below_drewN Bwz _⟩

        · cases hf
      · rcases E1 with ⟨hf, _⟩ | ⟨_, g1, rfl⟩
        · cases hf
        · have hkk : k1 < s1.length := of_decide_eq_true Hf1.out.symm
          have B4x : Below w4.heap.size w4 w11 := B47.trans (B711.mono l47)
          have t0 : RdS w11 b0 s0 := p0.keep B4x (Nat.le_refl _)
          have t1 : RdS w11 b1 s1 := p1.keep B4x (Nat.le_refl _)
          have C7x : Cols w11 w4.heap.size pw (s0 ++ s1.take k1) k1 := C7.keep B711 (Nat.le_refl _)
          clear RO p0 p1 p2 C7 B47
          go_wp2_with fail
          refine (want13 b0 b1 d0 d1 s0 s1 k1 w11 t0 t1 (by omega) (by omega) hkn).mono ?_
          rintro e wz ⟨vz, rfl, oz, Bz⟩
          obtain ⟨az, cz, rfl, rz, _⟩ := Rw.strs ⟨oz, fun k hk => (oz.lt k hk).2⟩
          have Cw := C7x.keep Bz (Nat.le_refl _)
          have Cs := CX.keep Bz (Nat.le_refl _)
          have Bwz : Below w.heap.size w wz := (Bw4.trans (B4x.mono Bw4.size)).trans (Bz.mono (Nat.le_trans Bw4.size B4x.size))
          have ll : (s0 ++ s1.take k1).length ≤ 2097152 := by rw [List.length_append, List.length_take]; omega
          generalize s0 ++ s1.take k1 = L at *
          clear C7x CX t0 t1 oz Bz B4x Bw4
          go_wp2_with fail
          refine (names15 _ pw L k1 wz Cw).mono ?_
          rintro e _ ⟨ax, cx, rfl, rx, rfl⟩
          go_wp2_with fail
          refine (eq14 ax az cx cz L wz rx rz ll).mono ?_
          rintro e _ ⟨rfl, nq, rfl⟩
          have Cs1 : Cols (wz.drewN nq) w7.heap.size ps L k1 := Cs
          have Cw1 : Cols (wz.drewN nq) w4.heap.size pw L k1 := Cw
          go_wp2_with fail
          refine (names15 _ ps L k1 _ Cs1).mono ?_
          rintro e _ ⟨ay, cy, rfl, ry, rfl⟩
          go_wp2_with fail
          refine (eq14 ay az cy cz L _ ry (rz.keep (below_drewN (Below.refl wz.heap.size wz) nq) (Nat.le_refl _)) ll).mono ?_
          rintro e _ ⟨rfl, nq2, rfl⟩
          have Cs2 : Cols (wz.drewN (nq + nq2)) w7.heap.size ps L k1 := Cs1
          have Cw2 : Cols (wz.drewN (nq + nq2)) w4.heap.size pw L k1 := Cw1
          go_wp2_with fail
          refine (vlen16 _ pw L k1 _ Cw2).mono ?_
          rintro e _ ⟨rfl, rfl⟩
          go_wp2_with fail
          refine (vlen16 _ ps L k1 _ Cs2).mono ?_
          rintro e _ ⟨rfl, rfl⟩
          go_wp2
          go_ret
          exact ⟨rfl, below_drewN Bwz _⟩


    · obtain rfl : ct = s1.length := by omega
      go_wp2_with fail
      refine (zapply w7.heap.size ps w4.heap.size (some ⟨g, 0, none⟩) 0 0 ((optsOf s1 fs).drop s1.length) (by rw [List.length_drop, optsOf_length]; omega) (s0 ++ na) ka w10 ((RO.keep B410 (Nat.le_refl _)).drop s1.length (fun h => by rw [optsOf_length] at h; omega)) C10 l47 l710 (by omega) (by rw [List.length_append]; omega) (by omega)).mono ?_
      rintro e w11 ⟨kb, fb', nb, vb, rfl, E3, A3, C11, B11⟩
      have J := applied_uniq (applied_join (by rw [optsOf_length]; omega) A2 A3) A1
      rw [List.append_assoc, J.1, J.2.2] at C11
      have B711 : Below w7.heap.size w7 w11 := B710.trans B11
      obtain ⟨rfl⟩ : fb' = f1 := J.2.1
      clear J A2 A3 B11 B710 B410 C10 hka hna l710
      have CX := C11
      clear C11
      rcases E3 with ⟨rfl, rfl⟩ | ⟨rfl, g3, rfl⟩
      · rcases E1 with ⟨_, rfl⟩ | ⟨hf, _⟩
        · have hkk : ¬ k1 < s1.length := of_decide_eq_false Hf1.out.symm
          have B4x : Below w4.heap.size w4 w11 := B47.trans (B711.mono l47)
          have t0 : RdS w11 b0 s0 := p0.keep B4x (Nat.le_refl _)
          have t1 : RdS w11 b1 s1 := p1.keep B4x (Nat.le_refl _)
          have C7x : Cols w11 w4.heap.size pw (s0 ++ s1.take k1) k1 := C7.keep B711 (Nat.le_refl _)
          clear RO p0 p1 p2 C7 B47
          go_wp2_with fail
          refine (want13 b0 b1 d0 d1 s0 s1 k1 w11 t0 t1 (by omega) (by omega) hkn).mono ?_
          rintro e wz ⟨vz, rfl, oz, Bz⟩
          obtain ⟨az, cz, rfl, rz, _⟩ := Rw.strs ⟨oz, fun k hk => (oz.lt k hk).2⟩
          have Cw := C7x.keep Bz (Nat.le_refl _)
          have Cs := CX.keep Bz (Nat.le_refl _)
          have Bwz : Below w.heap.size w wz := (Bw4.trans (B4x.mono Bw4.size)).trans (Bz.mono (Nat.le_trans Bw4.size B4x.size))
          have ll : (s0 ++ s1.take k1).length ≤ 2097152 := by rw [List.length_append, List.length_take]; omega
          generalize s0 ++ s1.take k1 = L at *
          clear C7x CX t0 t1 oz Bz B4x Bw4
          go_wp2_with fail
          refine (names15 _ pw L k1 wz Cw).mono ?_
          rintro e _ ⟨ax, cx, rfl, rx, rfl⟩
          go_wp2_with fail
          refine (eq14 ax az cx cz L wz rx rz ll).mono ?_
          rintro e _ ⟨rfl, nq, rfl⟩
          have Cs1 : Cols (wz.drewN nq) w7.heap.size ps L k1 := Cs
          have Cw1 : Cols (wz.drewN nq) w4.heap.size pw L k1 := Cw
          go_wp2_with fail
          refine (names15 _ ps L k1 _ Cs1).mono ?_
          rintro e _ ⟨ay, cy, rfl, ry, rfl⟩
          go_wp2_with fail
          refine (eq14 ay az cy cz L _ ry (rz.keep (below_drewN (Below.refl wz.heap.size wz) nq) (Nat.le_refl _)) ll).mono ?_
          rintro e _ ⟨rfl, nq2, rfl⟩
          have Cs2 : Cols (wz.drewN (nq + nq2)) w7.heap.size ps L k1 := Cs1
          have Cw2 : Cols (wz.drewN (nq + nq2)) w4.heap.size pw L k1 := Cw1
          go_wp2_with fail
          refine (vlen16 _ pw L k1 _ Cw2).mono ?_
          rintro e _ ⟨rfl, rfl⟩
          go_wp2_with fail
          refine (vlen16 _ ps L k1 _ Cs2).mono ?_
          rintro e _ ⟨rfl, rfl⟩
          go_wp2
          go_ret
          exact ⟨rfl, below_drewN Bwz _⟩

        · cases hf
      · rcases E1 with ⟨hf, _⟩ | ⟨_, g1, rfl⟩
        · cases hf
        · have hkk : k1 < s1.length := of_decide_eq_true Hf1.out.symm
          have B4x : Below w4.heap.size w4 w11 := B47.trans (B711.mono l47)
          have t0 : RdS w11 b0 s0 := p0.keep B4x (Nat.le_refl _)
          have t1 : RdS w11 b1 s1 := p1.keep B4x (Nat.le_refl _)
          have C7x : Cols w11 w4.heap.size pw (s0 ++ s1.take k1) k1 := C7.keep B711 (Nat.le_refl _)
          clear RO p0 p1 p2 C7 B47
          go_wp2_with fail
          refine (want13 b0 b1 d0 d1 s0 s1 k1 w11 t0 t1 (by omega) (by omega) hkn).mono ?_
          rintro e wz ⟨vz, rfl, oz, Bz⟩
          obtain ⟨az, cz, rfl, rz, _⟩ := Rw.strs ⟨oz, fun k hk => (oz.lt k hk).2⟩
          have Cw := C7x.keep Bz (Nat.le_refl _)
          have Cs := CX.keep Bz (Nat.le_refl _)
          have Bwz : Below w.heap.size w wz := (Bw4.trans (B4x.mono Bw4.size)).trans (Bz.mono (Nat.le_trans Bw4.size B4x.size))
          have ll : (s0 ++ s1.take k1).length ≤ 2097152 := by rw [List.length_append, List.length_take]; omega
          generalize s0 ++ s1.take k1 = L at *
          clear C7x CX t0 t1 oz Bz B4x Bw4
          go_wp2_with fail
          refine (names15 _ pw L k1 wz Cw).mono ?_
          rintro e _ ⟨ax, cx, rfl, rx, rfl⟩
          go_wp2_with fail
          refine (eq14 ax az cx cz L wz rx rz ll).mono ?_
          rintro e _ ⟨rfl, nq, rfl⟩
          have Cs1 : Cols (wz.drewN nq) w7.heap.size ps L k1 := Cs
          have Cw1 : Cols (wz.drewN nq) w4.heap.size pw L k1 := Cw
          go_wp2_with fail
          refine (names15 _ ps L k1 _ Cs1).mono ?_
          rintro e _ ⟨ay, cy, rfl, ry, rfl⟩
          go_wp2_with fail
          refine (eq14 ay az cy cz L _ ry (rz.keep (below_drewN (Below.refl wz.heap.size wz) nq) (Nat.le_refl _)) ll).mono ?_
          rintro e _ ⟨rfl, nq2, rfl⟩
          have Cs2 : Cols (wz.drewN (nq + nq2)) w7.heap.size ps L k1 := Cs1
          have Cw2 : Cols (wz.drewN (nq + nq2)) w4.heap.size pw L k1 := Cw1
          go_wp2_with fail
          refine (vlen16 _ pw L k1 _ Cw2).mono ?_
          rintro e _ ⟨rfl, rfl⟩
          go_wp2_with fail
          refine (vlen16 _ ps L k1 _ Cs2).mono ?_
          rintro e _ ⟨rfl, rfl⟩
          go_wp2
          go_ret
          exact ⟨rfl, below_drewN Bwz _⟩


  · have J := applied_uniq (applied_stop A2) A1
    rw [J.1, J.2.2] at C10
    have CX := C10
    obtain rfl : f1 = true := J.2.1.symm
    clear J C10 A2
    rcases E1 with ⟨hf, _⟩ | ⟨_, g1, rfl⟩
    · cases hf
    · have hkk : k1 < s1.length := of_decide_eq_true Hf1.out.symm
      have B4x : Below w4.heap.size w4 w10 := B47.trans (B710.mono l47)
      have t0 : RdS w10 b0 s0 := p0.keep B4x (Nat.le_refl _)
      have t1 : RdS w10 b1 s1 := p1.keep B4x (Nat.le_refl _)
      have C7x : Cols w10 w4.heap.size pw (s0 ++ s1.take k1) k1 := C7.keep B710 (Nat.le_refl _)
      clear RO p0 p1 p2 C7 B47
      go_wp2_with fail
      refine (want13 b0 b1 d0 d1 s0 s1 k1 w10 t0 t1 (by omega) (by omega) hkn).mono ?_
      rintro e wz ⟨vz, rfl, oz, Bz⟩
      obtain ⟨az, cz, rfl, rz, _⟩ := Rw.strs ⟨oz, fun k hk => (oz.lt k hk).2⟩
      have Cw := C7x.keep Bz (Nat.le_refl _)
      have Cs := CX.keep Bz (Nat.le_refl _)
      have Bwz : Below w.heap.size w wz := (Bw4.trans (B4x.mono Bw4.size)).trans (Bz.mono (Nat.le_trans Bw4.size B4x.size))
      have ll : (s0 ++ s1.take k1).length ≤ 2097152 := by rw [List.length_append, List.length_take]; omega
      generalize s0 ++ s1.take k1 = L at *
      clear C7x CX t0 t1 oz Bz B4x Bw4
      go_wp2_with fail
      refine (names15 _ pw L k1 wz Cw).mono ?_
      rintro e _ ⟨ax, cx, rfl, rx, rfl⟩
      go_wp2_with fail
      refine (eq14 ax az cx cz L wz rx rz ll).mono ?_
      rintro e _ ⟨rfl, nq, rfl⟩
      have Cs1 : Cols (wz.drewN nq) w7.heap.size ps L k1 := Cs
      have Cw1 : Cols (wz.drewN nq) w4.heap.size pw L k1 := Cw
      go_wp2_with fail
      refine (names15 _ ps L k1 _ Cs1).mono ?_
      rintro e _ ⟨ay, cy, rfl, ry, rfl⟩
      go_wp2_with fail
      refine (eq14 ay az cy cz L _ ry (rz.keep (below_drewN (Below.refl wz.heap.size wz) nq) (Nat.le_refl _)) ll).mono ?_
      rintro e _ ⟨rfl, nq2, rfl⟩
      have Cs2 : Cols (wz.drewN (nq + nq2)) w7.heap.size ps L k1 := Cs1
      have Cw2 : Cols (wz.drewN (nq + nq2)) w4.heap.size pw L k1 := Cw1
      go_wp2_with fail
      refine (vlen16 _ pw L k1 _ Cw2).mono ?_
      rintro e _ ⟨rfl, rfl⟩
      go_wp2_with fail
      refine (vlen16 _ ps L k1 _ Cs2).mono ?_
      rintro e _ ⟨rfl, rfl⟩
      go_wp2
      go_ret
      exact ⟨rfl, below_drewN Bwz _⟩


end Go.Proofs.Qxb6625432a
