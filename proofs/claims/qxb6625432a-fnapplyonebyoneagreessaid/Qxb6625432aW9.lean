import Derived.Test.Qxb6625432aW7
namespace Go.Proofs.Qxb6625432a
open Go.RowKit
set_option linter.unusedVariables false

theorem single {os : List (Option ByteArray)} {k kb : Nat} {f : Bool} {na nb : List ByteArray} (hk : k < os.length) (h : Applied (os.take k) k false na) (g : Applied ((os.drop k).take 1) kb f nb) :
    Applied (os.take (k + 1)) (k + kb) f (na ++ nb) ∧ (f = false → kb = 1) ∧ (f = true → kb = 0) ∧ nb.length ≤ kb := by
  have e1 : (os.take (k + 1)).take k = os.take k := by rw [List.take_take, Nat.min_eq_left (by omega)]
  have e2 : (os.take (k + 1)).drop k = (os.drop k).take 1 := by rw [List.drop_take]; congr 1; omega
  have hl : ((os.drop k).take 1).length = 1 := by rw [List.length_take, List.length_drop]; omega
  refine ⟨applied_join (cut := k) (by rw [List.length_take]; omega) (by rw [e1]; exact h) (by rw [e2]; exact g), fun hf => ?_, fun hf => ?_, ?_⟩
  · have := g.2.2.2.2 hf; omega
  · have := (g.2.2.2.1 hf).1; omega
  · rw [g.2.1]; exact names_len _ _

set_option maxRecDepth 100000 in
set_option maxHeartbeats 4000000 in
theorem walk4 (a0 a1 a2 : Option Addr) (c0 c1 c2 : Nat) (s0 s1 : List ByteArray) (fs : List Bool) (w : World)
    (n0 : a0 = none → c0 = 0) (n1 : a1 = none → c1 = 0) (n2 : a2 = none → c2 = 0) (h0 : RdS w a0 s0) (h1 : RdS w a1 s1) (h2 : RdB w a2 fs)
    (z0 : ∀ i, (s0.getD i ByteArray.empty).size ≤ maxLen) (z1 : ∀ i, (s1.getD i ByteArray.empty).size ≤ maxLen) (l0 : s0.length ≤ maxLen) (l1 : s1.length ≤ maxLen) (l2 : fs.length ≤ maxLen) :
    Calls Try.prog 4 #[.slice a0 s0.length c0, .slice a1 s1.length c1, .slice a2 fs.length c2] w fun e w' => e = .returned (.bool true) ∧ Below w.heap.size w w' := by
  go_enter Try.func4, Try.ntmps4
  go_wp2_with fail
  refine (bytes17 a0 a1 a2 c0 c1 fs.length c2 s0 s1 _ h0 h1 z0 z1 l0 l1 l2).mono ?_
  rintro e _ ⟨b, rfl, rfl, hb⟩
  cases b with
  | false =>
    go_wp2
    go_ret
    exact ⟨rfl, Below.refl _ _⟩
  | true =>
  have hbd := hb rfl
  clear hb
  go_wp2_with fail
  refine (within6 a0 a1 a2 c0 c1 fs.length c2 s0 s1 _ h0 h1 z0 z1 l0 l1 l2).mono ?_
  rintro e _ ⟨b, rfl, rfl, _⟩
  cases b with
  | false =>
    go_wp2
    go_ret
    exact ⟨rfl, Below.refl _ _⟩
  | true =>
  clear z0 z1 l0 l1 l2
  go_wp2_with fail
  refine (clS a0 c0 s0 w n0 h0 (by omega)).mono ?_
  rintro e w1 ⟨b0, d0, rfl, _, r0, m0, B1⟩
  go_wp2_with fail
  refine (clS a1 c1 s1 w1 n1 (h1.keep B1 (Nat.le_refl _)) (by omega)).mono ?_
  rintro e w2 ⟨b1, d1, rfl, _, r1, m1, B2⟩
  go_wp2_with fail
  refine (clB a2 c2 fs w2 n2 ((h2.keep B1 (Nat.le_refl _)).keep B2 (Nat.le_refl _)) (by omega)).mono ?_
  rintro e w3 ⟨b2, d2, rfl, r2, B3⟩
  have q0 : RdS w3 b0 s0 := (r0.keep B2 (Nat.le_refl _)).keep B3 (Nat.le_refl _)
  have q1 : RdS w3 b1 s1 := r1.keep B3 (Nat.le_refl _)
  have Bw3 : Below w.heap.size w w3 := (B1.trans (B2.mono B1.size)).trans (B3.mono (Nat.le_trans B1.size B2.size))
  clear h0 h1 h2 n0 n1 n2 r0 r1 B1 B2 B3
  go_wp2_with fail
  refine (opts9 b1 b2 d1 d2 s1 fs w3 q1 r2 (by omega) (by omega)).mono ?_
  rintro e w4 ⟨g, rfl, RO, B4⟩
  have p0 : RdS w4 b0 s0 := q0.keep B4 (Nat.le_refl _)
  have p1 : RdS w4 b1 s1 := q1.keep B4 (Nat.le_refl _)
  have p2 : RdB w4 b2 fs := r2.keep B4 (Nat.le_refl _)
  have Bw4 : Below w.heap.size w w4 := Bw3.trans (B4.mono Bw3.size)
  clear q0 q1 r2 Bw3 B4
  go_wp2_with fail
  refine (first10 b1 b2 s1.length d1 d2 fs w4 p2 (by omega) (by omega)).mono ?_
  rintro e _ ⟨k, rfl, rfl, hFR⟩
  have hkn := hFR.1
  go_wp2_with fail
  refine (clS b0 d0 s0 w4 m0 p0 (by omega)).mono ?_
  rintro e w5 ⟨b5, d5, rfl, o5, _, _, B5⟩
  go_wp2_with fail
  refine (newCols11 w4.heap.size _ s0 w5 o5 B5.size).mono ?_
  rintro e w6 ⟨pw, rfl, C6, B6⟩
  have B46 : Below w4.heap.size w4 w6 := B5.trans (B6.mono B5.size)
  go_wp2_with fail
  refine (zapply w4.heap.size pw w4.heap.size (some ⟨g, 0, none⟩) s1.length s1.length (optsOf s1 fs) (optsOf_length _ _) s0 0 w6 (RO.keep B46 (Nat.le_refl _)) C6 (Nat.le_refl _) B46.size (by omega) (by omega) (by omega)).mono ?_
  rintro e w7 ⟨k1, f1, nm1, v1, rfl, E1, A1, C7, B7⟩
  have B47 : Below w4.heap.size w4 w7 := B46.trans B7
  have F1 := applied_fr A1
  obtain rfl : k1 = k := FR.uniq F1.1 hFR
  rw [Nat.zero_add, F1.2.2] at C7
  rw [F1.2.2] at A1
  have Hf1 : Hid (f1 = decide (k1 < s1.length)) := F1.2.1
  clear F1 nm1
  have p7 : RdS w7 b0 s0 := p0.keep B47 (Nat.le_refl _)
  clear B5 B6 B46 B7 C6 o5
  go_wp2_with fail
  refine (clS b0 d0 s0 w7 m0 p7 (by omega)).mono ?_
  rintro e w8 ⟨b8, d8, rfl, o8, _, _, B8⟩
  go_wp2_with fail
  refine (newCols11 w7.heap.size _ s0 w8 o8 B8.size).mono ?_
  rintro e w9 ⟨ps, rfl, C9, B9⟩
  have B79 : Below w7.heap.size w7 w9 := B8.trans (B9.mono B8.size)
  have B49 : Below w4.heap.size w4 w9 := B47.trans (B79.mono B47.size)
  clear B8 B9 o8
  go_wp2_with fail
  have l79 := B79.size
  have l47 := B47.size
  refine (zapply w7.heap.size ps w4.heap.size none 0 0 [] rfl s0 0 w9 (fun i hi => absurd hi (Nat.not_lt_zero _)) C9 l47 l79 (by omega) (by omega) (by omega)).mono ?_
  rintro e w10 ⟨ka, fa, na, va, rfl, E2, A2, C10, B10⟩
  have hfa : fa = false ∧ ka = 0 ∧ na = [] := by
    obtain ⟨x1, x2, x3, x4, x5⟩ := A2
    have hka : ka = 0 := by simpa using x1
    refine ⟨?_, hka, by rw [x2]; simp⟩
    cases fa with
    | false => rfl
    | true => have := (x4 rfl).1; simp at this
  obtain ⟨rfl, rfl, rfl⟩ := hfa
  rw [List.append_nil] at C10
  have B710 : Below w7.heap.size w7 w10 := B79.trans B10
  clear C9 B79 B49 B10 p7 A2
  rcases E2 with ⟨_, rfl⟩ | ⟨hf, _⟩
  rotate_left
  · cases hf
  go_wp2_with fail
  go_loopw [14, 15, 16] (fun st sf i wr => ∃ k names, k ≤ s1.length ∧ i = .int .i64 (k : Nat) ∧ st = .int .i64 (k : Nat) ∧ sf = .bool false ∧ Applied ((optsOf s1 fs).take k) k false names ∧ Cols wr w7.heap.size ps (s0 ++ names) k ∧ Below w7.heap.size w7 wr)
    (fun _ _ i _ => s1.length - (intOf i).toNat)
  case atStart => exact ⟨0, [], Nat.zero_le _, rfl, rfl, rfl, applied_nil, by simpa using C10, B710⟩
  case round =>
    obtain ⟨k, names, hk, rfl, rfl, rfl, A2, C11, B711⟩ := hrel
    clear C10 B710
    by_cases hlt : k < s1.length
    · have B4r : Below w4.heap.size w4 wr := B47.trans (B711.mono l47)
      have hna : names.length ≤ k := by have := A2.2.1; rw [this]; exact names_len _ _
      have l7r := B711.size
      have hcn' : ¬ s1.length = k := by omega
      go_wp2_with fail
      refine (zapply w7.heap.size ps w4.heap.size (some ⟨g, k, none⟩) (s1.length - k) 1 (((optsOf s1 fs).drop k).take 1) (by rw [List.length_take, List.length_drop, optsOf_length]; omega) (s0 ++ names) k wr (((RO.keep B4r (Nat.le_refl _)).drop k (fun _ => rfl)).take 1) C11 l47 l7r (by omega) (by rw [List.length_append]; omega) (by omega)).mono ?_
      rintro e w11 ⟨kb, f', nb, vb, rfl, E3, A3, C12, B12⟩
      have J := single (by rw [optsOf_length]; exact hlt) A2 A3
      have B712 : Below w7.heap.size w7 w11 := B711.trans B12
      rw [List.append_assoc] at C12
      clear A2 A3 B12 B711 B4r C11
      rcases E3 with ⟨rfl, rfl⟩ | ⟨rfl, g3, rfl⟩
      · have hkb : kb = 1 := J.2.1 rfl
        subst hkb
        have J1 := J.1
        clear J
        go_wp2
        go_roundw
        case rel => exact ⟨k + 1, names ++ nb, by omega, by go_num, by go_num, rfl, J1, C12, B712⟩
        case measure => simp [intOf]; omega
      · have hkb : kb = 0 := J.2.2.1 rfl
        subst hkb
        have U := applied_uniq (applied_stop J.1) A1
        have CX : Cols w11 w7.heap.size ps (s0 ++ s1.take k1) k1 := by
          have h := C12
          rw [U.1, U.2.2] at h
          exact h
        obtain rfl : f1 = true := U.2.1.symm
        obtain rfl : k = k1 := by have := U.1; omega
        clear U J C12
        rcases E1 with ⟨hf, _⟩ | ⟨_, g1, rfl⟩
        · cases hf
        · have hkk : k < s1.length := hlt
          clear hlt Hf1
          have B4x : Below w4.heap.size w4 w11 := B47.trans (B712.mono l47)
          have t0 : RdS w11 b0 s0 := p0.keep B4x (Nat.le_refl _)
          have t1 : RdS w11 b1 s1 := p1.keep B4x (Nat.le_refl _)
          have C7x : Cols w11 w4.heap.size pw (s0 ++ s1.take k) k := C7.keep B712 (Nat.le_refl _)
          clear RO p0 p1 p2 C7 B47
          go_wp2_with fail
          refine (want13 b0 b1 d0 d1 s0 s1 k w11 t0 t1 (by omega) (by omega) hkn).mono ?_
          rintro e wz ⟨vz, rfl, oz, Bz⟩
          obtain ⟨az, cz, rfl, rz, _⟩ := Rw.strs ⟨oz, fun k hk => (oz.lt k hk).2⟩
          have Cw := C7x.keep Bz (Nat.le_refl _)
          have Cs := CX.keep Bz (Nat.le_refl _)
          have Bwz : Below w.heap.size w wz := (Bw4.trans (B4x.mono Bw4.size)).trans (Bz.mono (Nat.le_trans Bw4.size B4x.size))
          have ll : (s0 ++ s1.take k).length ≤ 2097152 := by rw [List.length_append, List.length_take]; omega
          generalize s0 ++ s1.take k = L at *
          clear C7x CX t0 t1 oz Bz B4x Bw4
          go_wp2_with fail
          refine (names15 _ pw L k wz Cw).mono ?_
          rintro e _ ⟨ax, cx, rfl, rx, rfl⟩
          go_wp2_with fail
          refine (eq14 ax az cx cz L wz rx rz ll).mono ?_
          rintro e _ ⟨rfl, nq, rfl⟩
          have Cs1 : Cols (wz.drewN nq) w7.heap.size ps L k := Cs
          have Cw1 : Cols (wz.drewN nq) w4.heap.size pw L k := Cw
          go_wp2_with fail
          refine (names15 _ ps L k _ Cs1).mono ?_
          rintro e _ ⟨ay, cy, rfl, ry, rfl⟩
          go_wp2_with fail
          refine (eq14 ay az cy cz L _ ry (rz.keep (below_drewN (Below.refl wz.heap.size wz) nq) (Nat.le_refl _)) ll).mono ?_
          rintro e _ ⟨rfl, nq2, rfl⟩
          have Cs2 : Cols (wz.drewN (nq + nq2)) w7.heap.size ps L k := Cs1
          have Cw2 : Cols (wz.drewN (nq + nq2)) w4.heap.size pw L k := Cw1
          go_wp2_with fail
          refine (vlen16 _ pw L k _ Cw2).mono ?_
          rintro e _ ⟨rfl, rfl⟩
          go_wp2_with fail
          refine (vlen16 _ ps L k _ Cs2).mono ?_
          rintro e _ ⟨rfl, rfl⟩
          go_wp2
          go_ret
          exact ⟨rfl, below_drewN Bwz _⟩

    · obtain rfl : k = s1.length := by omega
      have U := applied_uniq (k := s1.length) (f := false) (na := names) (os := optsOf s1 fs) (by have := A2; rwa [List.take_of_length_le (by rw [optsOf_length]; exact Nat.le_refl _)] at this) A1
      have CX : Cols wr w7.heap.size ps (s0 ++ s1.take k1) k1 := by
        have h := C11
        rw [U.2.2] at h
        rw [← U.1]
        rw [← U.1] at h
        exact h
      obtain rfl : f1 = false := U.2.1.symm
      obtain ⟨rfl⟩ : k1 = s1.length := U.1.symm
      clear U C11 A2
      rcases E1 with ⟨_, rfl⟩ | ⟨hf, _⟩
      · clear Hf1
        have B4x : Below w4.heap.size w4 wr := B47.trans (B711.mono l47)
        have t0 : RdS wr b0 s0 := p0.keep B4x (Nat.le_refl _)
        have t1 : RdS wr b1 s1 := p1.keep B4x (Nat.le_refl _)
        have C7x : Cols wr w4.heap.size pw (s0 ++ s1.take s1.length) s1.length := C7.keep B711 (Nat.le_refl _)
        clear RO p0 p1 p2 C7 B47
        go_wp2_with fail
        refine (want13 b0 b1 d0 d1 s0 s1 s1.length wr t0 t1 (by omega) (by omega) hkn).mono ?_
        rintro e wz ⟨vz, rfl, oz, Bz⟩
        obtain ⟨az, cz, rfl, rz, _⟩ := Rw.strs ⟨oz, fun k hk => (oz.lt k hk).2⟩
        have Cw := C7x.keep Bz (Nat.le_refl _)
        have Cs := CX.keep Bz (Nat.le_refl _)
        have Bwz : Below w.heap.size w wz := (Bw4.trans (B4x.mono Bw4.size)).trans (Bz.mono (Nat.le_trans Bw4.size B4x.size))
        have ll : (s0 ++ s1.take s1.length).length ≤ 2097152 := by rw [List.length_append, List.length_take]; omega
        generalize s0 ++ s1.take s1.length = L at *
        clear C7x CX t0 t1 oz Bz B4x Bw4
        go_wp2_with fail
        refine (names15 _ pw L s1.length wz Cw).mono ?_
        rintro e _ ⟨ax, cx, rfl, rx, rfl⟩
        go_wp2_with fail
        refine (eq14 ax az cx cz L wz rx rz ll).mono ?_
        rintro e _ ⟨rfl, nq, rfl⟩
        have Cs1 : Cols (wz.drewN nq) w7.heap.size ps L s1.length := Cs
        have Cw1 : Cols (wz.drewN nq) w4.heap.size pw L s1.length := Cw
        go_wp2_with fail
        refine (names15 _ ps L s1.length _ Cs1).mono ?_
        rintro e _ ⟨ay, cy, rfl, ry, rfl⟩
        go_wp2_with fail
        refine (eq14 ay az cy cz L _ ry (rz.keep (below_drewN (Below.refl wz.heap.size wz) nq) (Nat.le_refl _)) ll).mono ?_
        rintro e _ ⟨rfl, nq2, rfl⟩
        have Cs2 : Cols (wz.drewN (nq + nq2)) w7.heap.size ps L s1.length := Cs1
        have Cw2 : Cols (wz.drewN (nq + nq2)) w4.heap.size pw L s1.length := Cw1
        go_wp2_with fail
        refine (vlen16 _ pw L s1.length _ Cw2).mono ?_
        rintro e _ ⟨rfl, rfl⟩
        go_wp2_with fail
        refine (vlen16 _ ps L s1.length _ Cs2).mono ?_
        rintro e _ ⟨rfl, rfl⟩
        go_wp2
        go_ret
        exact ⟨rfl, below_drewN Bwz _⟩

      · cases hf

end Go.Proofs.Qxb6625432a
