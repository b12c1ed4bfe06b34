import Derived.Test.Qxb6625814aU8
namespace Go.Proofs.Qxb6625814a
open Go.RowKit
set_option linter.unusedVariables false
set_option linter.unusedSimpArgs false

theorem semi_list (line : ByteArray) : ((⟨#[59]⟩ : ByteArray) ++ line).data.toList = 59 :: line.data.toList := by
  show ((⟨#[59]⟩ : ByteArray) ++ line).data.toList = _
  rw [ByteArray.data_append]
  simp
theorem semi_size (line : ByteArray) : ((⟨#[59]⟩ : ByteArray) ++ line).size = line.size + 1 := by
  rw [ByteArray.size_append]; exact Nat.add_comm _ _
theorem list_semi (t : ByteArray) : (t ++ (⟨#[59]⟩ : ByteArray)).data.toList = t.data.toList ++ [59] := by
  rw [ByteArray.data_append]
  simp
theorem size_semi (t : ByteArray) : (t ++ (⟨#[59]⟩ : ByteArray)).size = t.size + 1 := by
  rw [ByteArray.size_append]; rfl

theorem own_keep34 {w w' : World} {B' lo n : Nat} {v : Value} {xs : List Value} (h : w.ownsRow lo 34 2 v n xs) (hb : Below B' w w') (hB : w.heap.size ≤ B') : w'.ownsRow lo 34 2 v n xs := by
  refine ⟨h.1, ?_⟩
  rcases h.2 with hn | ⟨g, cap, cur, e1, hg, hh, rest⟩
  · exact .inl hn
  · exact .inr ⟨g, cap, cur, e1, hg, by rw [hb.block g (by have := lt_of_block hh; omega)]; exact hh, rest⟩
theorem st_one (sn : Int) (text : ByteArray) : stCells [(sn, text.data.toList ++ [59])] = [.int .i64 sn, .string (text ++ ⟨#[59]⟩)] := by
  have h : (⟨(text.data.toList ++ [59]).toArray⟩ : ByteArray) = text ++ ⟨#[59]⟩ := by
    rw [← list_semi]
  show [Value.int .i64 sn, .string ⟨(text.data.toList ++ [59]).toArray⟩] = _
  rw [h]
theorem stCells_one (out : List (Int × List UInt8)) : ∀ u ∈ stCells out, u.oneCell' = true := by
  intro u hu
  simp only [stCells, List.mem_flatMap, List.mem_cons, List.not_mem_nil, or_false] at hu
  obtain ⟨a, _, h | h⟩ := hu <;> rw [h] <;> rfl

/-- What the two scans have to do with each other. -/
theorem scanA (B p st : Nat) (q : UInt8) (op : Int) (text line : ByteArray) (sn n : Int) (w : World) (fB : Sc) (lead : List (Int × List UInt8)) (hS : Sco w B p ⟨st, q, op, text.data.toList, sn, []⟩) (hl : text.size + line.size ≤ 1048576) (hBw : B ≤ w.heap.size) (hst : st ≤ 2)
    (hf : scanF n (line.size + 1) ⟨st, q, op, text.data.toList, sn, []⟩ (59 :: line.data.toList) = { fB with out := lead ++ fB.out }) :
    Calls Try.prog 9 #[.pointer (some ⟨p, 0, none⟩), .string (⟨#[59]⟩ ++ line), .int .i64 n] w (RetScan w B p { fB with out := lead ++ fB.out }) := by
  have h := scan9 B p ⟨st, q, op, text.data.toList, sn, []⟩ (⟨#[59]⟩ ++ line) n w hS rfl (by rw [semi_size]; show text.data.toList.length + _ ≤ _; have : text.data.toList.length = text.size := rfl; omega) hBw hst
  rw [semi_size, semi_list, hf] at h
  exact h

set_option maxRecDepth 100000 in
set_option maxHeartbeats 1000000 in
theorem walk4 (st : Nat) (q : UInt8) (op : Int) (text : ByteArray) (sn : Int) (line : ByteArray) (n : Int) (w : World) (l0 : text.size ≤ maxLen) (l1 : line.size ≤ maxLen) (hst : st ≤ 255) :
    Calls Try.prog 4 #[.int .u8 (st : Int), .int .u8 (q.toNat : Int), .int .i64 op, .string text, .int .i64 sn, .string line, .int .i64 n] w fun e w' => e = .returned (.bool true) ∧ Below w.heap.size w w' := by
  go_enter Try.func4, Try.ntmps4
  go_wp2_with fail
  refine (bytes12 _ _ _ _ _ text line w l0 l1).mono ?_
  rintro e _ ⟨b, rfl, rfl, hb⟩
  cases b with
  | false =>
    go_wp2
    go_ret
    exact ⟨rfl, Below.refl _ _⟩
  | true =>
  have hbd := hb rfl
  clear hb l0 l1
  by_cases g0 : 524288 < text.size
  · go_wp2
    go_ret
    exact ⟨rfl, Below.refl _ _⟩
  by_cases g1 : 524288 < line.size
  · go_wp2
    go_ret
    exact ⟨rfl, Below.refl _ _⟩
  by_cases g2 : 2 < st
  · go_wp2
    go_ret
    exact ⟨rfl, Below.refl _ _⟩
  by_cases h2 : st = 2
  · subst h2
    go_wp2_with fail
    refine (isq6 q w).mono ?_
    rintro e _ ⟨rfl, rfl⟩
    cases hq : isQ q with
    | false =>
      go_wp2
      go_ret
      exact ⟨rfl, Below.refl _ _⟩
    | true =>
      have HQ : Hid (isQ q = true) := hq
      clear hq
      go_wp2_with fail
      refine (new8 2 q op text sn w (by omega)).mono ?_
      rintro e w1 ⟨pa, rfl, Sa, B1⟩
      obtain ⟨fB, hfB⟩ : ∃ fB, fB = scanF n line.size ⟨2, q, op, text.data.toList ++ [59], sn, []⟩ line.data.toList := ⟨_, rfl⟩
      have HFB : Hid (fB = scanF n line.size ⟨2, q, op, text.data.toList ++ [59], sn, []⟩ line.data.toList) := hfB
      clear hfB
      have hlen := scanF_len n line.size ⟨2, q, op, text.data.toList ++ [59], sn, []⟩ line.data.toList
      rw [← HFB.out] at hlen
      have eL : line.data.toList.length = line.size := rfl
      have eT : text.data.toList.length = text.size := rfl
      simp only [List.length_append, List.length_cons, List.length_nil, eL, eT] at hlen
      clear eL eT
      have l1 := B1.size
      go_wp2_with fail
      refine (scanA w.heap.size pa 2 q op text line sn n w1 fB [] Sa (by omega) l1 (by decide) (by rw [HFB.out]; exact lead_quote n q op _ sn _ _ HQ.out)).mono ?_
      rintro e w2 ⟨va, rfl, StA, SA, B2⟩
      have BW2 : Below w.heap.size w w2 := B1.trans B2
      have TA : ScT w2 w.heap.size w2.heap.size pa ⟨fB.st, fB.q, fB.op, fB.bs ++ [10], fB.sn, []⟩ := Sco.top SA
      have StA' : Stmts w2 w.heap.size va ([] ++ fB.out) := StA
      clear StA SA B1 B2 Sa l1
      have l2 := BW2.size
      obtain ⟨i34, hi34, hz340, hz341, hz342⟩ := info_parts Try.info34
      have B3 : Below w2.heap.size w2 w2 := Below.refl _ _
      have l3 : w2.heap.size ≤ w2.heap.size := Nat.le_refl _
      go_wp2_with fail
      have h8 := new8 2 q op (text ++ ⟨#[59]⟩) sn w2 (by first | (rw [size_semi]; omega) | decide)
      refine h8.mono ?_
      clear h8
      rintro e w4 ⟨pb, rfl, Sb, B4⟩
      have Sb' : Sco w4 w2.heap.size pb ⟨2, q, op, text.data.toList ++ [59], sn, []⟩ := by
        have h := Sb
        try rw [list_semi] at h
        exact h
      clear Sb
      have l4 := B4.size
      go_wp2_with fail
      have hsB := scan9 w2.heap.size pb ⟨2, q, op, text.data.toList ++ [59], sn, []⟩ line n w4 Sb' rfl (by simp only [List.length_append, List.length_cons, List.length_nil]; have eT : text.data.toList.length = text.size := rfl; omega) l4 (show (2 : Nat) ≤ 2 by decide)
      rw [← HFB.out] at hsB
      refine hsB.mono ?_
      rintro e w5 ⟨vb, rfl, StB, SB, B5⟩
      clear hsB Sb'
      have B45 : Below w2.heap.size w2 w5 := B4.trans B5
      have l5 := B45.size
      have B25 : Below w2.heap.size w2 w5 := B3.trans (B45.mono l3)
      have SB' : Sco w5 w2.heap.size pb ⟨fB.st, fB.q, fB.op, fB.bs ++ [10], fB.sn, []⟩ := SB
      clear B4 B5 SB
      have ownL : w5.ownsRow w2.heap.size 34 2 (.slice none 0 0) 0 [] := (World.ownsRow_nil w5 w2.heap.size 34 2)
      by_cases hob : fB.out = []
      · have hvb : vb = .slice none 0 0 := StB.2 hob
        subst hvb
        go_wp2_with (at_builtin; refine wpList_append_own_none rfl _ _ 24 rfl w2.heap.size 34 i34 2 Try.underlying24 hi34 (.slice none 0 0) 0 [] rfl ownL rfl ?_)
        have StW : Stmts w5 w2.heap.size (.slice none 0 0) ([] ++ fB.out) := by
          rw [hob]
          exact ⟨by simpa [stCells] using ownL, fun h => by first | rfl | simp at h⟩
        have HOB : Hid (fB.out = []) := hob
        clear hob StB ownL
        have TA5 := TA.keep B25 (Nat.le_refl _)
        have StA5 := StA'.keepB B25 (Nat.le_refl _)
        have BW5 : Below w.heap.size w w5 := BW2.trans (B25.mono l2)
        obtain ⟨pca, hpa⟩ : ∃ cs, w5.heap[pa]? = some (.cells cs 44 (0, 0)) := by obtain ⟨_, _, ap, v, hb, _⟩ := TA5; exact ⟨_, hb⟩
        have HPA : Hid (w5.heap[pa]? = some (.cells pca 44 (0, 0))) := hpa
        clear hpa TA StA'
        go_wp2_with fail
        refine (fields10x w.heap.size w2.heap.size pa _ w5 TA5 (by simp) (by simp; omega)).mono ?_
        rintro e w7 ⟨rfl, B7, O7, K7⟩
        have SB7 := SB'.above (by omega) K7
        have StA7 := StA5.keep O7 HPA.out
        have StW7 := StW.keep O7 HPA.out
        have BW7 := BW5.trans B7
        have TB7 := SB7.top
        obtain ⟨pcb, hpb⟩ : ∃ cs, w7.heap[pb]? = some (.cells cs 44 (0, 0)) := by obtain ⟨_, ap, v, hb, _⟩ := SB7; exact ⟨_, hb⟩
        have HPB : Hid (w7.heap[pb]? = some (.cells pcb 44 (0, 0))) := hpb
        clear hpb TA5 StA5 StW SB' SB7 K7
        go_wp2_with fail
        refine (fields10x w2.heap.size w7.heap.size pb _ w7 TB7 (by simp) (by simp; omega)).mono ?_
        rintro e w8 ⟨rfl, B8, O8, _⟩
        have StA8 := (StA7.keep O8 HPB.out).rd
        have StW8 := (StW7.keep O8 HPB.out).rd
        have BW8 := BW7.trans (B8.mono (by omega))
        clear StA7 StW7 TB7
        go_wp2_with fail
        refine (same11 va (.slice none 0 0) ([] ++ fB.out) w8 (by simp; omega) StA8 StW8).mono ?_
        rintro e _ ⟨rfl, m, rfl⟩
        go_wp2
        go_ret
        exact ⟨rfl, below_drewN BW8 _⟩
      · obtain ⟨gb, cb, hvb, _, _⟩ := StB.1.form (List.length_pos_iff.2 hob)
        subst hvb
        go_wp2_with (at_builtin; refine wpList_append_lies _ rfl _ _ 24 rfl w2.heap.size 34 i34 _ 2 24 Try.underlying24 hi34 hz340 hz341 hz342 rfl (by decide) (.slice none 0 0) 0 [] rfl ownL ⟨gb, 0, none⟩ fB.out.length cb (stCells fB.out) rfl (by simpa using StB.1.1) (StB.1.cells (g := gb) rfl) (stCells_one fB.out) (List.length_pos_iff.2 hob) (by unfold maxLen; omega) (by omega) (by omega) _ rfl ?_; intro gw cw w6 ownw groww _ _)
        have B26 : Below w2.heap.size w2 w6 := B25.grown groww (by omega) (fun k hk => (ownL.lt k hk).1)
        have SB6 : Sco w6 w2.heap.size pb ⟨fB.st, fB.q, fB.op, fB.bs ++ [10], fB.sn, []⟩ := SB'.grown groww ownL
        have StW : Stmts w6 w2.heap.size (.slice (some ⟨gw, 0, none⟩) fB.out.length cw) ([] ++ fB.out) := by
          refine ⟨?_, fun h => absurd (List.append_eq_nil_iff.1 h).2 hob⟩
          have e1 : ([] ++ fB.out : List (Int × List UInt8)).length = fB.out.length := by simp; try omega
          have e2 : stCells ([] ++ fB.out) = [] ++ stCells fB.out := by simp [stCells]
          rw [e1, e2]; rw [Nat.zero_add] at ownw; exact ownw
        clear SB' hob StB ownL ownw groww
        have SB' := SB6
        have B25' := B26
        clear SB6 B25 B26
        have TA5 := TA.keep B25' (Nat.le_refl _)
        have StA5 := StA'.keepB B25' (Nat.le_refl _)
        have BW5 : Below w.heap.size w w6 := BW2.trans (B25'.mono l2)
        obtain ⟨pca, hpa⟩ : ∃ cs, w6.heap[pa]? = some (.cells cs 44 (0, 0)) := by obtain ⟨_, _, ap, v, hb, _⟩ := TA5; exact ⟨_, hb⟩
        have HPA : Hid (w6.heap[pa]? = some (.cells pca 44 (0, 0))) := hpa
        clear hpa TA StA'
        go_wp2_with fail
        refine (fields10x w.heap.size w2.heap.size pa _ w6 TA5 (by simp) (by simp; omega)).mono ?_
        rintro e w7 ⟨rfl, B7, O7, K7⟩
        have SB7 := SB'.above (by omega) K7
        have StA7 := StA5.keep O7 HPA.out
        have StW7 := StW.keep O7 HPA.out
        have BW7 := BW5.trans B7
        have TB7 := SB7.top
        obtain ⟨pcb, hpb⟩ : ∃ cs, w7.heap[pb]? = some (.cells cs 44 (0, 0)) := by obtain ⟨_, ap, v, hb, _⟩ := SB7; exact ⟨_, hb⟩
        have HPB : Hid (w7.heap[pb]? = some (.cells pcb 44 (0, 0))) := hpb
        clear hpb TA5 StA5 StW SB' SB7 K7
        go_wp2_with fail
        refine (fields10x w2.heap.size w7.heap.size pb _ w7 TB7 (by simp) (by simp; omega)).mono ?_
        rintro e w8 ⟨rfl, B8, O8, _⟩
        have StA8 := (StA7.keep O8 HPB.out).rd
        have StW8 := (StW7.keep O8 HPB.out).rd
        have BW8 := BW7.trans (B8.mono (by omega))
        clear StA7 StW7 TB7
        go_wp2_with fail
        refine (same11 va (.slice (some ⟨gw, 0, none⟩) fB.out.length cw) ([] ++ fB.out) w8 (by simp; omega) StA8 StW8).mono ?_
        rintro e _ ⟨rfl, m, rfl⟩
        go_wp2
        go_ret
        exact ⟨rfl, below_drewN BW8 _⟩
  · have t2 : ((st : Int) == 2) = false := beq_eq_false_iff_ne.2 (by omega)
    by_cases h1 : st = 1
    · subst h1
      clear h2 g2 hst
      go_wp2_with fail
      refine (new8 1 q op text sn w (by omega)).mono ?_
      rintro e w1 ⟨pa, rfl, Sa, B1⟩
      obtain ⟨fB, hfB⟩ : ∃ fB, fB = scanF n line.size ⟨1, q, op, text.data.toList ++ [59], sn, []⟩ line.data.toList := ⟨_, rfl⟩
      have HFB : Hid (fB = scanF n line.size ⟨1, q, op, text.data.toList ++ [59], sn, []⟩ line.data.toList) := hfB
      clear hfB
      have hlen := scanF_len n line.size ⟨1, q, op, text.data.toList ++ [59], sn, []⟩ line.data.toList
      rw [← HFB.out] at hlen
      have eL : line.data.toList.length = line.size := rfl
      have eT : text.data.toList.length = text.size := rfl
      simp only [List.length_append, List.length_cons, List.length_nil, eL, eT] at hlen
      clear eL eT
      have l1 := B1.size
      go_wp2_with fail
      refine (scanA w.heap.size pa 1 q op text line sn n w1 fB [] Sa (by omega) l1 (by decide) (by rw [HFB.out]; exact lead_block n q op _ sn _ _)).mono ?_
      rintro e w2 ⟨va, rfl, StA, SA, B2⟩
      have BW2 : Below w.heap.size w w2 := B1.trans B2
      have TA : ScT w2 w.heap.size w2.heap.size pa ⟨fB.st, fB.q, fB.op, fB.bs ++ [10], fB.sn, []⟩ := Sco.top SA
      have StA' : Stmts w2 w.heap.size va ([] ++ fB.out) := StA
      clear StA SA B1 B2 Sa l1
      have l2 := BW2.size
      obtain ⟨i34, hi34, hz340, hz341, hz342⟩ := info_parts Try.info34
      have B3 : Below w2.heap.size w2 w2 := Below.refl _ _
      have l3 : w2.heap.size ≤ w2.heap.size := Nat.le_refl _
      go_wp2_with fail
      have h8 := new8 1 q op (text ++ ⟨#[59]⟩) sn w2 (by first | (rw [size_semi]; omega) | decide)
      refine h8.mono ?_
      clear h8
      rintro e w4 ⟨pb, rfl, Sb, B4⟩
      have Sb' : Sco w4 w2.heap.size pb ⟨1, q, op, text.data.toList ++ [59], sn, []⟩ := by
        have h := Sb
        try rw [list_semi] at h
        exact h
      clear Sb
      have l4 := B4.size
      go_wp2_with fail
      have hsB := scan9 w2.heap.size pb ⟨1, q, op, text.data.toList ++ [59], sn, []⟩ line n w4 Sb' rfl (by simp only [List.length_append, List.length_cons, List.length_nil]; have eT : text.data.toList.length = text.size := rfl; omega) l4 (show (1 : Nat) ≤ 2 by decide)
      rw [← HFB.out] at hsB
      refine hsB.mono ?_
      rintro e w5 ⟨vb, rfl, StB, SB, B5⟩
      clear hsB Sb'
      have B45 : Below w2.heap.size w2 w5 := B4.trans B5
      have l5 := B45.size
      have B25 : Below w2.heap.size w2 w5 := B3.trans (B45.mono l3)
      have SB' : Sco w5 w2.heap.size pb ⟨fB.st, fB.q, fB.op, fB.bs ++ [10], fB.sn, []⟩ := SB
      clear B4 B5 SB
      have ownL : w5.ownsRow w2.heap.size 34 2 (.slice none 0 0) 0 [] := (World.ownsRow_nil w5 w2.heap.size 34 2)
      by_cases hob : fB.out = []
      · have hvb : vb = .slice none 0 0 := StB.2 hob
        subst hvb
        go_wp2_with (at_builtin; refine wpList_append_own_none rfl _ _ 24 rfl w2.heap.size 34 i34 2 Try.underlying24 hi34 (.slice none 0 0) 0 [] rfl ownL rfl ?_)
        have StW : Stmts w5 w2.heap.size (.slice none 0 0) ([] ++ fB.out) := by
          rw [hob]
          exact ⟨by simpa [stCells] using ownL, fun h => by first | rfl | simp at h⟩
        have HOB : Hid (fB.out = []) := hob
        clear hob StB ownL
        have TA5 := TA.keep B25 (Nat.le_refl _)
        have StA5 := StA'.keepB B25 (Nat.le_refl _)
        have BW5 : Below w.heap.size w w5 := BW2.trans (B25.mono l2)
        obtain ⟨pca, hpa⟩ : ∃ cs, w5.heap[pa]? = some (.cells cs 44 (0, 0)) := by obtain ⟨_, _, ap, v, hb, _⟩ := TA5; exact ⟨_, hb⟩
        have HPA : Hid (w5.heap[pa]? = some (.cells pca 44 (0, 0))) := hpa
        clear hpa TA StA'
        go_wp2_with fail
        refine (fields10x w.heap.size w2.heap.size pa _ w5 TA5 (by simp) (by simp; omega)).mono ?_
        rintro e w7 ⟨rfl, B7, O7, K7⟩
        have SB7 := SB'.above (by omega) K7
        have StA7 := StA5.keep O7 HPA.out
        have StW7 := StW.keep O7 HPA.out
        have BW7 := BW5.trans B7
        have TB7 := SB7.top
        obtain ⟨pcb, hpb⟩ : ∃ cs, w7.heap[pb]? = some (.cells cs 44 (0, 0)) := by obtain ⟨_, ap, v, hb, _⟩ := SB7; exact ⟨_, hb⟩
        have HPB : Hid (w7.heap[pb]? = some (.cells pcb 44 (0, 0))) := hpb
        clear hpb TA5 StA5 StW SB' SB7 K7
        go_wp2_with fail
        refine (fields10x w2.heap.size w7.heap.size pb _ w7 TB7 (by simp) (by simp; omega)).mono ?_
        rintro e w8 ⟨rfl, B8, O8, _⟩
        have StA8 := (StA7.keep O8 HPB.out).rd
        have StW8 := (StW7.keep O8 HPB.out).rd
        have BW8 := BW7.trans (B8.mono (by omega))
        clear StA7 StW7 TB7
        go_wp2_with fail
        refine (same11 va (.slice none 0 0) ([] ++ fB.out) w8 (by simp; omega) StA8 StW8).mono ?_
        rintro e _ ⟨rfl, m, rfl⟩
        go_wp2
        go_ret
        exact ⟨rfl, below_drewN BW8 _⟩
      · obtain ⟨gb, cb, hvb, _, _⟩ := StB.1.form (List.length_pos_iff.2 hob)
        subst hvb
        go_wp2_with (at_builtin; refine wpList_append_lies _ rfl _ _ 24 rfl w2.heap.size 34 i34 _ 2 24 Try.underlying24 hi34 hz340 hz341 hz342 rfl (by decide) (.slice none 0 0) 0 [] rfl ownL ⟨gb, 0, none⟩ fB.out.length cb (stCells fB.out) rfl (by simpa using StB.1.1) (StB.1.cells (g := gb) rfl) (stCells_one fB.out) (List.length_pos_iff.2 hob) (by unfold maxLen; omega) (by omega) (by omega) _ rfl ?_; intro gw cw w6 ownw groww _ _)
        have B26 : Below w2.heap.size w2 w6 := B25.grown groww (by omega) (fun k hk => (ownL.lt k hk).1)
        have SB6 : Sco w6 w2.heap.size pb ⟨fB.st, fB.q, fB.op, fB.bs ++ [10], fB.sn, []⟩ := SB'.grown groww ownL
        have StW : Stmts w6 w2.heap.size (.slice (some ⟨gw, 0, none⟩) fB.out.length cw) ([] ++ fB.out) := by
          refine ⟨?_, fun h => absurd (List.append_eq_nil_iff.1 h).2 hob⟩
          have e1 : ([] ++ fB.out : List (Int × List UInt8)).length = fB.out.length := by simp; try omega
          have e2 : stCells ([] ++ fB.out) = [] ++ stCells fB.out := by simp [stCells]
          rw [e1, e2]; rw [Nat.zero_add] at ownw; exact ownw
        clear SB' hob StB ownL ownw groww
        have SB' := SB6
        have B25' := B26
        clear SB6 B25 B26
        have TA5 := TA.keep B25' (Nat.le_refl _)
        have StA5 := StA'.keepB B25' (Nat.le_refl _)
        have BW5 : Below w.heap.size w w6 := BW2.trans (B25'.mono l2)
        obtain ⟨pca, hpa⟩ : ∃ cs, w6.heap[pa]? = some (.cells cs 44 (0, 0)) := by obtain ⟨_, _, ap, v, hb, _⟩ := TA5; exact ⟨_, hb⟩
        have HPA : Hid (w6.heap[pa]? = some (.cells pca 44 (0, 0))) := hpa
        clear hpa TA StA'
        go_wp2_with fail
        refine (fields10x w.heap.size w2.heap.size pa _ w6 TA5 (by simp) (by simp; omega)).mono ?_
        rintro e w7 ⟨rfl, B7, O7, K7⟩
        have SB7 := SB'.above (by omega) K7
        have StA7 := StA5.keep O7 HPA.out
        have StW7 := StW.keep O7 HPA.out
        have BW7 := BW5.trans B7
        have TB7 := SB7.top
        obtain ⟨pcb, hpb⟩ : ∃ cs, w7.heap[pb]? = some (.cells cs 44 (0, 0)) := by obtain ⟨_, ap, v, hb, _⟩ := SB7; exact ⟨_, hb⟩
        have HPB : Hid (w7.heap[pb]? = some (.cells pcb 44 (0, 0))) := hpb
        clear hpb TA5 StA5 StW SB' SB7 K7
        go_wp2_with fail
        refine (fields10x w2.heap.size w7.heap.size pb _ w7 TB7 (by simp) (by simp; omega)).mono ?_
        rintro e w8 ⟨rfl, B8, O8, _⟩
        have StA8 := (StA7.keep O8 HPB.out).rd
        have StW8 := (StW7.keep O8 HPB.out).rd
        have BW8 := BW7.trans (B8.mono (by omega))
        clear StA7 StW7 TB7
        go_wp2_with fail
        refine (same11 va (.slice (some ⟨gw, 0, none⟩) fB.out.length cw) ([] ++ fB.out) w8 (by simp; omega) StA8 StW8).mono ?_
        rintro e _ ⟨rfl, m, rfl⟩
        go_wp2
        go_ret
        exact ⟨rfl, below_drewN BW8 _⟩
    · obtain rfl : st = 0 := by omega
      clear h1 h2 g2 hst
      by_cases hs0 : sn = 0
      · subst hs0
        go_wp2_with fail
        refine (new8 0 q op text 0 w (by omega)).mono ?_
        rintro e w1 ⟨pa, rfl, Sa, B1⟩
        obtain ⟨fB, hfB⟩ : ∃ fB, fB = scanF n line.size ⟨0, q, op, [], 0, []⟩ line.data.toList := ⟨_, rfl⟩
        have HFB : Hid (fB = scanF n line.size ⟨0, q, op, [], 0, []⟩ line.data.toList) := hfB
        clear hfB
        have hlen := scanF_len n line.size ⟨0, q, op, [], 0, []⟩ line.data.toList
        rw [← HFB.out] at hlen
        have eL : line.data.toList.length = line.size := rfl
        have eT : text.data.toList.length = text.size := rfl
        simp only [List.length_append, List.length_cons, List.length_nil, eL, eT] at hlen
        clear eL eT
        have l1 := B1.size
        go_wp2_with fail
        refine (scanA w.heap.size pa 0 q op text line 0 n w1 fB [] Sa (by omega) l1 (by decide) (by rw [HFB.out]; exact lead_code n q op _ 0 _ _)).mono ?_
        rintro e w2 ⟨va, rfl, StA, SA, B2⟩
        have BW2 : Below w.heap.size w w2 := B1.trans B2
        have TA : ScT w2 w.heap.size w2.heap.size pa ⟨fB.st, fB.q, fB.op, fB.bs ++ [10], fB.sn, []⟩ := Sco.top SA
        have StA' : Stmts w2 w.heap.size va ([] ++ fB.out) := StA
        clear StA SA B1 B2 Sa l1
        have l2 := BW2.size
        obtain ⟨i34, hi34, hz340, hz341, hz342⟩ := info_parts Try.info34
        have B3 : Below w2.heap.size w2 w2 := Below.refl _ _
        have l3 : w2.heap.size ≤ w2.heap.size := Nat.le_refl _
        go_wp2_with fail
        have h8 := new8 0 q op (⟨#[]⟩) 0 w2 (by first | (rw [size_semi]; omega) | decide)
        refine h8.mono ?_
        clear h8
        rintro e w4 ⟨pb, rfl, Sb, B4⟩
        have Sb' : Sco w4 w2.heap.size pb ⟨0, q, op, [], 0, []⟩ := by
          have h := Sb
          try rw [list_semi] at h
          exact h
        clear Sb
        have l4 := B4.size
        go_wp2_with fail
        have hsB := scan9 w2.heap.size pb ⟨0, q, op, [], 0, []⟩ line n w4 Sb' rfl (by simp only [List.length_append, List.length_cons, List.length_nil]; have eT : text.data.toList.length = text.size := rfl; omega) l4 (show (0 : Nat) ≤ 2 by decide)
        rw [← HFB.out] at hsB
        refine hsB.mono ?_
        rintro e w5 ⟨vb, rfl, StB, SB, B5⟩
        clear hsB Sb'
        have B45 : Below w2.heap.size w2 w5 := B4.trans B5
        have l5 := B45.size
        have B25 : Below w2.heap.size w2 w5 := B3.trans (B45.mono l3)
        have SB' : Sco w5 w2.heap.size pb ⟨fB.st, fB.q, fB.op, fB.bs ++ [10], fB.sn, []⟩ := SB
        clear B4 B5 SB
        have ownL : w5.ownsRow w2.heap.size 34 2 (.slice none 0 0) 0 [] := (World.ownsRow_nil w5 w2.heap.size 34 2)
        by_cases hob : fB.out = []
        · have hvb : vb = .slice none 0 0 := StB.2 hob
          subst hvb
          go_wp2_with (at_builtin; refine wpList_append_own_none rfl _ _ 24 rfl w2.heap.size 34 i34 2 Try.underlying24 hi34 (.slice none 0 0) 0 [] rfl ownL rfl ?_)
          have StW : Stmts w5 w2.heap.size (.slice none 0 0) ([] ++ fB.out) := by
            rw [hob]
            exact ⟨by simpa [stCells] using ownL, fun h => by first | rfl | simp at h⟩
          have HOB : Hid (fB.out = []) := hob
          clear hob StB ownL
          have TA5 := TA.keep B25 (Nat.le_refl _)
          have StA5 := StA'.keepB B25 (Nat.le_refl _)
          have BW5 : Below w.heap.size w w5 := BW2.trans (B25.mono l2)
          obtain ⟨pca, hpa⟩ : ∃ cs, w5.heap[pa]? = some (.cells cs 44 (0, 0)) := by obtain ⟨_, _, ap, v, hb, _⟩ := TA5; exact ⟨_, hb⟩
          have HPA : Hid (w5.heap[pa]? = some (.cells pca 44 (0, 0))) := hpa
          clear hpa TA StA'
          go_wp2_with fail
          refine (fields10x w.heap.size w2.heap.size pa _ w5 TA5 (by simp) (by simp; omega)).mono ?_
          rintro e w7 ⟨rfl, B7, O7, K7⟩
          have SB7 := SB'.above (by omega) K7
          have StA7 := StA5.keep O7 HPA.out
          have StW7 := StW.keep O7 HPA.out
          have BW7 := BW5.trans B7
          have TB7 := SB7.top
          obtain ⟨pcb, hpb⟩ : ∃ cs, w7.heap[pb]? = some (.cells cs 44 (0, 0)) := by obtain ⟨_, ap, v, hb, _⟩ := SB7; exact ⟨_, hb⟩
          have HPB : Hid (w7.heap[pb]? = some (.cells pcb 44 (0, 0))) := hpb
          clear hpb TA5 StA5 StW SB' SB7 K7
          go_wp2_with fail
          refine (fields10x w2.heap.size w7.heap.size pb _ w7 TB7 (by simp) (by simp; omega)).mono ?_
          rintro e w8 ⟨rfl, B8, O8, _⟩
          have StA8 := (StA7.keep O8 HPB.out).rd
          have StW8 := (StW7.keep O8 HPB.out).rd
          have BW8 := BW7.trans (B8.mono (by omega))
          clear StA7 StW7 TB7
          go_wp2_with fail
          refine (same11 va (.slice none 0 0) ([] ++ fB.out) w8 (by simp; omega) StA8 StW8).mono ?_
          rintro e _ ⟨rfl, m, rfl⟩
          go_wp2
          go_ret
          exact ⟨rfl, below_drewN BW8 _⟩
        · obtain ⟨gb, cb, hvb, _, _⟩ := StB.1.form (List.length_pos_iff.2 hob)
          subst hvb
          go_wp2_with (at_builtin; refine wpList_append_lies _ rfl _ _ 24 rfl w2.heap.size 34 i34 _ 2 24 Try.underlying24 hi34 hz340 hz341 hz342 rfl (by decide) (.slice none 0 0) 0 [] rfl ownL ⟨gb, 0, none⟩ fB.out.length cb (stCells fB.out) rfl (by simpa using StB.1.1) (StB.1.cells (g := gb) rfl) (stCells_one fB.out) (List.length_pos_iff.2 hob) (by unfold maxLen; omega) (by omega) (by omega) _ rfl ?_; intro gw cw w6 ownw groww _ _)
          have B26 : Below w2.heap.size w2 w6 := B25.grown groww (by omega) (fun k hk => (ownL.lt k hk).1)
          have SB6 : Sco w6 w2.heap.size pb ⟨fB.st, fB.q, fB.op, fB.bs ++ [10], fB.sn, []⟩ := SB'.grown groww ownL
          have StW : Stmts w6 w2.heap.size (.slice (some ⟨gw, 0, none⟩) fB.out.length cw) ([] ++ fB.out) := by
            refine ⟨?_, fun h => absurd (List.append_eq_nil_iff.1 h).2 hob⟩
            have e1 : ([] ++ fB.out : List (Int × List UInt8)).length = fB.out.length := by simp; try omega
            have e2 : stCells ([] ++ fB.out) = [] ++ stCells fB.out := by simp [stCells]
            rw [e1, e2]; rw [Nat.zero_add] at ownw; exact ownw
          clear SB' hob StB ownL ownw groww
          have SB' := SB6
          have B25' := B26
          clear SB6 B25 B26
          have TA5 := TA.keep B25' (Nat.le_refl _)
          have StA5 := StA'.keepB B25' (Nat.le_refl _)
          have BW5 : Below w.heap.size w w6 := BW2.trans (B25'.mono l2)
          obtain ⟨pca, hpa⟩ : ∃ cs, w6.heap[pa]? = some (.cells cs 44 (0, 0)) := by obtain ⟨_, _, ap, v, hb, _⟩ := TA5; exact ⟨_, hb⟩
          have HPA : Hid (w6.heap[pa]? = some (.cells pca 44 (0, 0))) := hpa
          clear hpa TA StA'
          go_wp2_with fail
          refine (fields10x w.heap.size w2.heap.size pa _ w6 TA5 (by simp) (by simp; omega)).mono ?_
          rintro e w7 ⟨rfl, B7, O7, K7⟩
          have SB7 := SB'.above (by omega) K7
          have StA7 := StA5.keep O7 HPA.out
          have StW7 := StW.keep O7 HPA.out
          have BW7 := BW5.trans B7
          have TB7 := SB7.top
          obtain ⟨pcb, hpb⟩ : ∃ cs, w7.heap[pb]? = some (.cells cs 44 (0, 0)) := by obtain ⟨_, ap, v, hb, _⟩ := SB7; exact ⟨_, hb⟩
          have HPB : Hid (w7.heap[pb]? = some (.cells pcb 44 (0, 0))) := hpb
          clear hpb TA5 StA5 StW SB' SB7 K7
          go_wp2_with fail
          refine (fields10x w2.heap.size w7.heap.size pb _ w7 TB7 (by simp) (by simp; omega)).mono ?_
          rintro e w8 ⟨rfl, B8, O8, _⟩
          have StA8 := (StA7.keep O8 HPB.out).rd
          have StW8 := (StW7.keep O8 HPB.out).rd
          have BW8 := BW7.trans (B8.mono (by omega))
          clear StA7 StW7 TB7
          go_wp2_with fail
          refine (same11 va (.slice (some ⟨gw, 0, none⟩) fB.out.length cw) ([] ++ fB.out) w8 (by simp; omega) StA8 StW8).mono ?_
          rintro e _ ⟨rfl, m, rfl⟩
          go_wp2
          go_ret
          exact ⟨rfl, below_drewN BW8 _⟩
      · have ts : (sn != 0) = true := by rw [bne_iff_ne]; exact hs0
        have HS0 : Hid (sn ≠ 0) := hs0
        clear hs0
        go_wp2_with fail
        refine (new8 0 q op text sn w (by omega)).mono ?_
        rintro e w1 ⟨pa, rfl, Sa, B1⟩
        obtain ⟨fB, hfB⟩ : ∃ fB, fB = scanF n line.size ⟨0, q, op, [], 0, []⟩ line.data.toList := ⟨_, rfl⟩
        have HFB : Hid (fB = scanF n line.size ⟨0, q, op, [], 0, []⟩ line.data.toList) := hfB
        clear hfB
        have hlen := scanF_len n line.size ⟨0, q, op, [], 0, []⟩ line.data.toList
        rw [← HFB.out] at hlen
        have eL : line.data.toList.length = line.size := rfl
        have eT : text.data.toList.length = text.size := rfl
        simp only [List.length_append, List.length_cons, List.length_nil, eL, eT] at hlen
        clear eL eT
        have l1 := B1.size
        go_wp2_with fail
        refine (scanA w.heap.size pa 0 q op text line sn n w1 fB [(sn, text.data.toList ++ [59])] Sa (by omega) l1 (by decide) (by rw [HFB.out]; have h := lead_code n q op text.data.toList sn line.data.toList line.size; rw [if_neg HS0.out] at h; exact h)).mono ?_
        rintro e w2 ⟨va, rfl, StA, SA, B2⟩
        have BW2 : Below w.heap.size w w2 := B1.trans B2
        have TA : ScT w2 w.heap.size w2.heap.size pa ⟨fB.st, fB.q, fB.op, fB.bs ++ [10], fB.sn, []⟩ := Sco.top SA
        have StA' : Stmts w2 w.heap.size va ([(sn, text.data.toList ++ [59])] ++ fB.out) := StA
        clear StA SA B1 B2 Sa l1
        have l2 := BW2.size
        obtain ⟨i34, hi34, hz340, hz341, hz342⟩ := info_parts Try.info34
        go_wp2_with (at_builtin; refine wpList_append_lies _ rfl _ _ 24 rfl w2.heap.size 34 i34 _ 2 24 Try.underlying24 hi34 hz340 hz341 hz342 rfl (by decide) (.slice none 0 0) 0 [] rfl (World.ownsRow_nil _ _ _ _) ⟨w2.heap.size, 0, none⟩ 1 1 [.int .i64 sn, .string (text ++ ⟨#[59]⟩)] rfl rfl (World.news_of_block (heap_alloc_new w2 _)) (by simp [Value.oneCell']) (by decide) (by decide) (by decide) (by simp) _ rfl ?_; intro gl cl w3 ownl growl _ _)
        have B3 : Below w2.heap.size w2 w3 := ((Below.refl _ w2).alloc (Nat.le_refl _) _).grown growl (by simp) (by simp [Value.ownBlock])
        have l3 := B3.size
        have ownl' : w3.ownsRow w2.heap.size 34 2 (.slice (some ⟨gl, 0, none⟩) 1 cl) 1 (stCells [(sn, text.data.toList ++ [59])]) := by
          rw [st_one]; exact ownl
        clear ownl growl
        have h8 := new8 0 q op (⟨#[]⟩) 0 w3 (by first | (rw [size_semi]; omega) | decide)
        refine h8.mono ?_
        clear h8
        rintro e w4 ⟨pb, rfl, Sb, B4⟩
        have Sb' : Sco w4 w3.heap.size pb ⟨0, q, op, [], 0, []⟩ := by
          have h := Sb
          try rw [list_semi] at h
          exact h
        clear Sb
        have l4 := B4.size
        go_wp2_with fail
        have hsB := scan9 w3.heap.size pb ⟨0, q, op, [], 0, []⟩ line n w4 Sb' rfl (by simp only [List.length_append, List.length_cons, List.length_nil]; have eT : text.data.toList.length = text.size := rfl; omega) l4 (show (0 : Nat) ≤ 2 by decide)
        rw [← HFB.out] at hsB
        refine hsB.mono ?_
        rintro e w5 ⟨vb, rfl, StB, SB, B5⟩
        clear hsB Sb'
        have B45 : Below w3.heap.size w3 w5 := B4.trans B5
        have l5 := B45.size
        have B25 : Below w2.heap.size w2 w5 := B3.trans (B45.mono l3)
        have SB' : Sco w5 w3.heap.size pb ⟨fB.st, fB.q, fB.op, fB.bs ++ [10], fB.sn, []⟩ := SB
        clear B4 B5 SB
        have ownL : w5.ownsRow w2.heap.size 34 2 (.slice (some ⟨gl, 0, none⟩) 1 cl) 1 (stCells [(sn, text.data.toList ++ [59])]) := (own_keep34 ownl' B45 (Nat.le_refl _))
        by_cases hob : fB.out = []
        · have hvb : vb = .slice none 0 0 := StB.2 hob
          subst hvb
          go_wp2_with (at_builtin; refine wpList_append_own_none rfl _ _ 24 rfl w2.heap.size 34 i34 2 Try.underlying24 hi34 (.slice (some ⟨gl, 0, none⟩) 1 cl) 1 (stCells [(sn, text.data.toList ++ [59])]) rfl ownL rfl ?_)
          have StW : Stmts w5 w2.heap.size (.slice (some ⟨gl, 0, none⟩) 1 cl) ([(sn, text.data.toList ++ [59])] ++ fB.out) := by
            rw [hob]
            exact ⟨by simpa [stCells] using ownL, fun h => by first | rfl | simp at h⟩
          have HOB : Hid (fB.out = []) := hob
          clear hob StB ownL
          have TA5 := TA.keep B25 (Nat.le_refl _)
          have StA5 := StA'.keepB B25 (Nat.le_refl _)
          have BW5 : Below w.heap.size w w5 := BW2.trans (B25.mono l2)
          obtain ⟨pca, hpa⟩ : ∃ cs, w5.heap[pa]? = some (.cells cs 44 (0, 0)) := by obtain ⟨_, _, ap, v, hb, _⟩ := TA5; exact ⟨_, hb⟩
          have HPA : Hid (w5.heap[pa]? = some (.cells pca 44 (0, 0))) := hpa
          clear hpa TA StA'
          go_wp2_with fail
          refine (fields10x w.heap.size w2.heap.size pa _ w5 TA5 (by simp) (by simp; omega)).mono ?_
          rintro e w7 ⟨rfl, B7, O7, K7⟩
          have SB7 := SB'.above (by omega) K7
          have StA7 := StA5.keep O7 HPA.out
          have StW7 := StW.keep O7 HPA.out
          have BW7 := BW5.trans B7
          have TB7 := SB7.top
          obtain ⟨pcb, hpb⟩ : ∃ cs, w7.heap[pb]? = some (.cells cs 44 (0, 0)) := by obtain ⟨_, ap, v, hb, _⟩ := SB7; exact ⟨_, hb⟩
          have HPB : Hid (w7.heap[pb]? = some (.cells pcb 44 (0, 0))) := hpb
          clear hpb TA5 StA5 StW SB' SB7 K7
          go_wp2_with fail
          refine (fields10x w3.heap.size w7.heap.size pb _ w7 TB7 (by simp) (by simp; omega)).mono ?_
          rintro e w8 ⟨rfl, B8, O8, _⟩
          have StA8 := (StA7.keep O8 HPB.out).rd
          have StW8 := (StW7.keep O8 HPB.out).rd
          have BW8 := BW7.trans (B8.mono (by omega))
          clear StA7 StW7 TB7
          go_wp2_with fail
          refine (same11 va (.slice (some ⟨gl, 0, none⟩) 1 cl) ([(sn, text.data.toList ++ [59])] ++ fB.out) w8 (by simp; omega) StA8 StW8).mono ?_
          rintro e _ ⟨rfl, m, rfl⟩
          go_wp2
          go_ret
          exact ⟨rfl, below_drewN BW8 _⟩
        · obtain ⟨gb, cb, hvb, _, _⟩ := StB.1.form (List.length_pos_iff.2 hob)
          subst hvb
          go_wp2_with (at_builtin; refine wpList_append_lies _ rfl _ _ 24 rfl w2.heap.size 34 i34 _ 2 24 Try.underlying24 hi34 hz340 hz341 hz342 rfl (by decide) (.slice (some ⟨gl, 0, none⟩) 1 cl) 1 (stCells [(sn, text.data.toList ++ [59])]) rfl ownL ⟨gb, 0, none⟩ fB.out.length cb (stCells fB.out) rfl (by simpa using StB.1.1) (StB.1.cells (g := gb) rfl) (stCells_one fB.out) (List.length_pos_iff.2 hob) (by unfold maxLen; omega) (by omega) (by omega) _ rfl ?_; intro gw cw w6 ownw groww _ _)
          have B26 : Below w2.heap.size w2 w6 := B25.grown groww (by omega) (fun k hk => (ownL.lt k hk).1)
          have SB6 : Sco w6 w3.heap.size pb ⟨fB.st, fB.q, fB.op, fB.bs ++ [10], fB.sn, []⟩ := SB'.grown groww ownL
          have StW : Stmts w6 w2.heap.size (.slice (some ⟨gw, 0, none⟩) (1 + fB.out.length) cw) ([(sn, text.data.toList ++ [59])] ++ fB.out) := by
            refine ⟨?_, fun h => absurd (List.append_eq_nil_iff.1 h).2 hob⟩
            have e1 : ([(sn, text.data.toList ++ [59])] ++ fB.out : List (Int × List UInt8)).length = (1 + fB.out.length) := by simp; try omega
            have e2 : stCells ([(sn, text.data.toList ++ [59])] ++ fB.out) = (stCells [(sn, text.data.toList ++ [59])]) ++ stCells fB.out := by simp [stCells]
            rw [e1, e2]; exact ownw
          clear SB' hob StB ownL ownw groww
          have SB' := SB6
          have B25' := B26
          clear SB6 B25 B26
          have TA5 := TA.keep B25' (Nat.le_refl _)
          have StA5 := StA'.keepB B25' (Nat.le_refl _)
          have BW5 : Below w.heap.size w w6 := BW2.trans (B25'.mono l2)
          obtain ⟨pca, hpa⟩ : ∃ cs, w6.heap[pa]? = some (.cells cs 44 (0, 0)) := by obtain ⟨_, _, ap, v, hb, _⟩ := TA5; exact ⟨_, hb⟩
          have HPA : Hid (w6.heap[pa]? = some (.cells pca 44 (0, 0))) := hpa
          clear hpa TA StA'
          go_wp2_with fail
          refine (fields10x w.heap.size w2.heap.size pa _ w6 TA5 (by simp) (by simp; omega)).mono ?_
          rintro e w7 ⟨rfl, B7, O7, K7⟩
          have SB7 := SB'.above (by omega) K7
          have StA7 := StA5.keep O7 HPA.out
          have StW7 := StW.keep O7 HPA.out
          have BW7 := BW5.trans B7
          have TB7 := SB7.top
          obtain ⟨pcb, hpb⟩ : ∃ cs, w7.heap[pb]? = some (.cells cs 44 (0, 0)) := by obtain ⟨_, ap, v, hb, _⟩ := SB7; exact ⟨_, hb⟩
          have HPB : Hid (w7.heap[pb]? = some (.cells pcb 44 (0, 0))) := hpb
          clear hpb TA5 StA5 StW SB' SB7 K7
          go_wp2_with fail
          refine (fields10x w3.heap.size w7.heap.size pb _ w7 TB7 (by simp) (by simp; omega)).mono ?_
          rintro e w8 ⟨rfl, B8, O8, _⟩
          have StA8 := (StA7.keep O8 HPB.out).rd
          have StW8 := (StW7.keep O8 HPB.out).rd
          have BW8 := BW7.trans (B8.mono (by omega))
          clear StA7 StW7 TB7
          go_wp2_with fail
          refine (same11 va (.slice (some ⟨gw, 0, none⟩) (1 + fB.out.length) cw) ([(sn, text.data.toList ++ [59])] ++ fB.out) w8 (by simp; omega) StA8 StW8).mono ?_
          rintro e _ ⟨rfl, m, rfl⟩
          go_wp2
          go_ret
          exact ⟨rfl, below_drewN BW8 _⟩

end Go.Proofs.Qxb6625814a
