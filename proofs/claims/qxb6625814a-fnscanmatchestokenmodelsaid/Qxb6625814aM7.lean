import Derived.Test.Qxb6625814aU8
import Derived.Test.Qxb6625814aM6
namespace Go.Proofs.Qxb6625814a
open Go.RowKit
set_option linter.unusedVariables false
set_option linter.unusedSimpArgs false

set_option maxRecDepth 100000 in
set_option maxHeartbeats 1000000 in
theorem walk3 (st : Nat) (q : UInt8) (op : Int) (text : ByteArray) (sn : Int) (line : ByteArray) (n : Int) (w : World) (l0 : text.size ≤ maxLen) (l1 : line.size ≤ maxLen) (hst : st ≤ 255) :
    Calls Try.prog 3 #[.int .u8 (st : Int), .int .u8 (q.toNat : Int), .int .i64 op, .string text, .int .i64 sn, .string line, .int .i64 n] w fun e w' => e = .returned (.bool true) ∧ Below w.heap.size w w' := by
  go_enter Try.func3, Try.ntmps3
  go_wp2_with fail
  refine (bytes5 _ _ _ _ _ text line w l0 l1).mono ?_
  rintro e _ ⟨b, rfl, rfl, hb⟩
  cases b with
  | false =>
    go_wp2
    go_ret
    exact ⟨rfl, Below.refl _ _⟩
  | true =>
  have hbd := hb rfl
  clear hb l0 l1
  by_cases g0 : 524288 < text.size
  · go_wp2
    go_ret
    exact ⟨rfl, Below.refl _ _⟩
  by_cases g1 : 524288 < line.size
  · go_wp2
    go_ret
    exact ⟨rfl, Below.refl _ _⟩
  by_cases g2 : 2 < st
  · go_wp2
    go_ret
    exact ⟨rfl, Below.refl _ _⟩
  by_cases h2 : st = 2
  · subst h2
    go_wp2_with fail
    refine (isq6 q w).mono ?_
    rintro e _ ⟨rfl, rfl⟩
    cases hq : isQ q with
    | false =>
      go_wp2
      go_ret
      exact ⟨rfl, Below.refl _ _⟩
    | true =>
      have HQ : Hid (isQ q = true) := hq
      clear hq
      have eL : line.data.toList.length = line.size := rfl
      have eT : text.data.toList.length = text.size := rfl
      obtain ⟨fB, hfB⟩ : ∃ fB, fB = scanF n line.size ⟨2, q, op, text.data.toList, sn, []⟩ line.data.toList := ⟨_, rfl⟩
      have HFB : Hid (fB = scanF n line.size ⟨2, q, op, text.data.toList, sn, []⟩ line.data.toList) := hfB
      clear hfB
      have hlen := scanF_len n line.size ⟨2, q, op, text.data.toList, sn, []⟩ line.data.toList
      rw [← HFB.out] at hlen
      simp only [List.length_nil, eL, eT] at hlen
      have hM := model7 2 q op text sn line n w (by omega) (by omega) (fun _ => isQ_ne HQ.out)
      rw [← HFB.out] at hM
      go_wp2_with fail
      refine hM.mono ?_
      clear hM
      rintro e w1 ⟨vm, rfl, StM, B1⟩
      have l1 := B1.size
      go_wp2_with fail
      have h8 := new8 2 q op text sn w1 (by omega)
      refine h8.mono ?_
      clear h8
      rintro e w2 ⟨pa, rfl, Sa, B2⟩
      have l2 := B2.size
      go_wp2_with fail
      have hsB := scan9 w1.heap.size pa ⟨2, q, op, text.data.toList, sn, []⟩ line n w2 Sa rfl (by show text.data.toList.length + _ ≤ _; omega) l2 (show (2 : Nat) ≤ 2 by omega)
      rw [← HFB.out] at hsB
      refine hsB.mono ?_
      clear hsB
      rintro e w3 ⟨va, rfl, StA, SA, B3⟩
      have B13 : Below w1.heap.size w1 w3 := B2.trans B3
      have l3 := B13.size
      have StM3 := StM.keepB B13 (Nat.le_refl _)
      have TA : ScT w3 w1.heap.size w3.heap.size pa ⟨fB.st, fB.q, fB.op, fB.bs ++ [10], fB.sn, []⟩ := Sco.top SA
      obtain ⟨pca, hpa⟩ : ∃ cs, w3.heap[pa]? = some (.cells cs 44 (0, 0)) := sc_blk SA
      have HPA : Hid (w3.heap[pa]? = some (.cells pca 44 (0, 0))) := hpa
      clear hpa SA Sa StM B2 B3
      go_wp2_with fail
      refine (fields10x w1.heap.size w3.heap.size pa _ w3 TA (by simp) (by simp; omega)).mono ?_
      rintro e w4 ⟨rfl, B4, O4, _⟩
      have StA4 := (StA.keep O4 HPA.out).rd
      have StM4 := (StM3.keep O4 HPA.out).rd
      have BW4 : Below w.heap.size w w4 := B1.trans ((B13.trans B4).mono l1)
      clear StA StM3 TA
      go_wp2_with fail
      refine (same11 va vm fB.out w4 (by omega) StA4 StM4).mono ?_
      rintro e _ ⟨rfl, m, rfl⟩
      go_wp2
      go_ret
      exact ⟨rfl, below_drewN BW4 _⟩
  · have t2 : ((st : Int) == 2) = false := beq_eq_false_iff_ne.2 (by omega)
    have HN : Hid (st ≠ 2) := h2
    have hs2 : st ≤ 1 := by omega
    clear h2 g2 hst
    have eL : line.data.toList.length = line.size := rfl
    have eT : text.data.toList.length = text.size := rfl
    obtain ⟨fB, hfB⟩ : ∃ fB, fB = scanF n line.size ⟨st, q, op, text.data.toList, sn, []⟩ line.data.toList := ⟨_, rfl⟩
    have HFB : Hid (fB = scanF n line.size ⟨st, q, op, text.data.toList, sn, []⟩ line.data.toList) := hfB
    clear hfB
    have hlen := scanF_len n line.size ⟨st, q, op, text.data.toList, sn, []⟩ line.data.toList
    rw [← HFB.out] at hlen
    simp only [List.length_nil, eL, eT] at hlen
    have hM := model7 st q op text sn line n w (by omega) (by omega) (fun h => absurd h HN.out)
    rw [← HFB.out] at hM
    go_wp2_with fail
    refine hM.mono ?_
    clear hM
    rintro e w1 ⟨vm, rfl, StM, B1⟩
    have l1 := B1.size
    go_wp2_with fail
    have h8 := new8 st q op text sn w1 (by omega)
    refine h8.mono ?_
    clear h8
    rintro e w2 ⟨pa, rfl, Sa, B2⟩
    have l2 := B2.size
    go_wp2_with fail
    have hsB := scan9 w1.heap.size pa ⟨st, q, op, text.data.toList, sn, []⟩ line n w2 Sa rfl (by show text.data.toList.length + _ ≤ _; omega) l2 (show (st : Nat) ≤ 2 by omega)
    rw [← HFB.out] at hsB
    refine hsB.mono ?_
    clear hsB
    rintro e w3 ⟨va, rfl, StA, SA, B3⟩
    have B13 : Below w1.heap.size w1 w3 := B2.trans B3
    have l3 := B13.size
    have StM3 := StM.keepB B13 (Nat.le_refl _)
    have TA : ScT w3 w1.heap.size w3.heap.size pa ⟨fB.st, fB.q, fB.op, fB.bs ++ [10], fB.sn, []⟩ := Sco.top SA
    obtain ⟨pca, hpa⟩ : ∃ cs, w3.heap[pa]? = some (.cells cs 44 (0, 0)) := sc_blk SA
    have HPA : Hid (w3.heap[pa]? = some (.cells pca 44 (0, 0))) := hpa
    clear hpa SA Sa StM B2 B3
    go_wp2_with fail
    refine (fields10x w1.heap.size w3.heap.size pa _ w3 TA (by simp) (by simp; omega)).mono ?_
    rintro e w4 ⟨rfl, B4, O4, _⟩
    have StA4 := (StA.keep O4 HPA.out).rd
    have StM4 := (StM3.keep O4 HPA.out).rd
    have BW4 : Below w.heap.size w w4 := B1.trans ((B13.trans B4).mono l1)
    clear StA StM3 TA
    go_wp2_with fail
    refine (same11 va vm fB.out w4 (by omega) StA4 StM4).mono ?_
    rintro e _ ⟨rfl, m, rfl⟩
    go_wp2
    go_ret
    exact ⟨rfl, below_drewN BW4 _⟩

end Go.Proofs.Qxb6625814a
