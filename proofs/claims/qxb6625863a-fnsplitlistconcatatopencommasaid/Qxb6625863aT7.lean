import Derived.Test.Qxb6625863aT6
import Derived.OwnWalk
namespace Go.Proofs.Qxb6625863a
open Go.RowKit
set_option linter.unusedVariables false
set_option linter.unusedSimpArgs false

theorem cat_list (a b : ByteArray) : (a ++ (⟨#[44]⟩ : ByteArray) ++ b).data.toList = a.data.toList ++ 44 :: b.data.toList := by
  rw [ByteArray.data_append, ByteArray.data_append]; simp
theorem cat_size (a b : ByteArray) : (a ++ (⟨#[44]⟩ : ByteArray) ++ b).size = a.size + 1 + b.size := by
  rw [ByteArray.size_append, ByteArray.size_append]; rfl
theorem cat_back (a b : ByteArray) : (⟨(a.data.toList ++ 44 :: b.data.toList).toArray⟩ : ByteArray) = a ++ (⟨#[44]⟩ : ByteArray) ++ b := by
  rw [← cat_list]

/-- zzJoinComma's answer, as a string. -/
def RetT (w : World) (s : ByteArray) (e : Ending) (w' : World) : Prop := e = .returned (.string s) ∧ Below w.heap.size w w'
theorem join11' (v : Value) (out : List (List UInt8)) (s : ByteArray) (w : World) (hl : out.length ≤ 2097152) (hj : (joinF out).length ≤ 2097152) (h0 : RdL w v out) (hs : (⟨(joinF out).toArray⟩ : ByteArray) = s) :
    Calls Try.prog 11 #[v] w (RetT w s) := by
  refine (join11 v out w hl hj h0).mono ?_
  rintro e w' ⟨rfl, h⟩
  exact ⟨by rw [hs], h⟩

/-- A copying loop's relation. -/
def PRel (w4 : World) (pre src : List (List UInt8)) (v i : Value) (wr : World) : Prop :=
  ∃ k : Nat, k ≤ src.length ∧ i = .int .i64 k ∧ Lst wr w4.heap.size v (pre ++ src.take k) ∧ Below w4.heap.size w4 wr

theorem RdL.keep {w w' : World} {B : Nat} {v : Value} {out : List (List UInt8)} (h : RdL w v out) (hb : Below B w w') (hB : w.heap.size ≤ B) : RdL w' v out := by
  obtain ⟨g, c, rfl, h⟩ := h
  exact ⟨g, c, rfl, fun i hi => (hb.cell (p := ⟨g, i, none⟩) (Nat.lt_of_lt_of_le (World.block_lt_of_cell? w _ (h i hi)) hB)).trans (h i hi)⟩

set_option maxRecDepth 100000 in
set_option maxHeartbeats 2000000 in
theorem walk4 (a0 a1 : ByteArray) (w0 : a0.size ≤ maxLen) (w1 : a1.size ≤ maxLen) (w : World) :
    Calls Try.prog 4 #[.string a0, .string a1] w fun e w' => e = .returned (.bool true) ∧ Below w.heap.size w w' := by
  go_enter Try.func4, Try.ntmps4
  go_wp2_with fail
  refine (bytes9 a0 a1 w w0 w1).mono ?_
  rintro e _ ⟨b, rfl, rfl, hb⟩
  cases b with
  | false =>
    go_wp2
    go_ret
    exact ⟨rfl, Below.refl _ _⟩
  | true =>
  have hbd := hb rfl
  clear hb w0 w1
  by_cases g0 : 524288 < a0.size
  · go_wp2
    go_ret
    exact ⟨rfl, Below.refl _ _⟩
  by_cases g1 : 524288 < a1.size
  · go_wp2
    go_ret
    exact ⟨rfl, Below.refl _ _⟩
  go_wp2_with fail
  refine (ends10 a0 w (by omega)).mono ?_
  rintro e _ ⟨b, rfl, rfl, hb⟩
  cases b with
  | false =>
    go_wp2
    go_ret
    exact ⟨rfl, Below.refl _ _⟩
  | true =>
  have hend := hb rfl
  clear hb
  obtain ⟨fa, hfa⟩ : ∃ fa, fa = splitF false false [] a0.data.toList := ⟨_, rfl⟩
  obtain ⟨fb, hfb⟩ : ∃ fb, fb = splitF false false [] a1.data.toList := ⟨_, rfl⟩
  have hwhole : splitF false false [] (a0 ++ (⟨#[44]⟩ : ByteArray) ++ a1).data.toList = fa ++ fb := by
    rw [cat_list, sp_cat _ _ _ _ _ hend, hfa, hfb]
  have hla : fa.length ≤ a0.size + 1 := by rw [hfa]; exact sp_len _ _ _ _
  have hlb : fb.length ≤ a1.size + 1 := by rw [hfb]; exact sp_len _ _ _ _
  have hna : fa ≠ [] := by rw [hfa]; exact sp_ne _ _ _ _
  have hnb : fb ≠ [] := by rw [hfb]; exact sp_ne _ _ _ _
  have hjoin : joinF (fa ++ fb) = a0.data.toList ++ 44 :: a1.data.toList := by
    rw [← hwhole, sp_join, cat_list]; rfl
  have HNA : Hid (fa ≠ []) := hna
  have HNB : Hid (fb ≠ []) := hnb
  have HJ : Hid (joinF (fa ++ fb) = a0.data.toList ++ 44 :: a1.data.toList) := hjoin
  have hcs := cat_size a0 a1
  have cW := fun w => split6 (a0 ++ (⟨#[44]⟩ : ByteArray) ++ a1) w (by rw [cat_size]; omega)
  have cA := fun w => split6 a0 w (by omega)
  have cB := fun w => split6 a1 w (by omega)
  rw [hwhole] at cW
  rw [← hfa] at cA
  rw [← hfb] at cB
  clear hwhole hfa hfb hna hnb hjoin hend
  go_wp2_with fail
  refine (cW _).mono ?_
  rintro e w1 ⟨v1, rfl, L1, B1⟩
  have l1 := B1.size
  go_wp2_with fail
  refine (cA _).mono ?_
  rintro e w2 ⟨v2, rfl, L2, B2⟩
  have l2 := B2.size
  go_wp2_with fail
  refine (cB _).mono ?_
  rintro e w3 ⟨v3, rfl, L3, B3⟩
  have l3 := B3.size
  have RW : RdL w3 v1 (fa ++ fb) := (((L1.keep B2 (Nat.le_refl _)).keep B3 (Nat.le_refl _)).rd (by intro e; exact HNA.out (List.append_eq_nil_iff.1 e).1))
  have RA : RdL w3 v2 fa := (L2.keep B3 (Nat.le_refl _)).rd HNA.out
  have RB : RdL w3 v3 fb := L3.rd HNB.out
  have BW : Below w.heap.size w w3 := B1.trans ((B2.mono l1).trans (B3.mono (by omega)))
  clear L1 L2 L3 cW cA cB B1 B2 B3 l1 l2 l3
  obtain ⟨gW, cWc, rfl, cw⟩ := RW
  obtain ⟨gA, cAc, rfl, ca⟩ := RA
  obtain ⟨gB, cBc, rfl, cb⟩ := RB
  have HW : Hid (RdL w3 (.slice (some ⟨gW, 0, none⟩) (fa ++ fb).length cWc) (fa ++ fb)) := ⟨gW, cWc, rfl, cw⟩
  have HCA : Hid (∀ i, i < fa.length → w3.cell? ⟨gA, i, none⟩ = some (.string ⟨(fa.getD i []).toArray⟩)) := ca
  have HCB : Hid (∀ i, i < fb.length → w3.cell? ⟨gB, i, none⟩ = some (.string ⟨(fb.getD i []).toArray⟩)) := cb
  clear cw ca cb hcs
  have l3 := BW.size
  obtain ⟨i9, hi9, hz0, hz1, hz2⟩ := info_parts Try.info9
  go_wp2_with (at_make; refine wpList_make_own _ rfl _ _ 23 rfl w3.heap.size 9 i9 (.string ByteArray.empty) 1 Try.underlying23 hi9 hz0 hz1 _ _ _ (fa.length + fb.length) rfl rfl (by omega) ?b2 ?b3 (Nat.le_refl _) ?_)
  case b2 => rw [hz2]; omega
  case b3 => unfold maxLen; omega
  intro w4 hown4 hgrow4
  have hbel4 : Below w3.heap.size w3 w4 := (Below.refl _ _).grown hgrow4 (Nat.le_refl _) (fun k h => by cases h)
  have HR : PRel w3 [] fa (.slice (some ⟨w3.heap.size, 0, none⟩) 0 (fa.length + fb.length)) (.int .i64 0) w4 := ⟨0, Nat.zero_le _, rfl, hown4, hbel4⟩
  clear hown4 hgrow4 hbel4
  go_wp2_with fail
  go_loopw [9, 10] (fun v i wr => PRel w3 [] fa v i wr) (fun _ i _ => fa.length - (intOf i).toNat)
  case atStart => exact HR
  case round =>
    clear HR
    obtain ⟨k, hk, rfl, hL, hbel⟩ := hrel
    have hlw := hbel.size
    obtain ⟨P, hP⟩ : ∃ P, P = [] ++ fa.take k := ⟨_, rfl⟩
    rw [← hP] at hL
    have HP : Hid (P = [] ++ fa.take k) := hP
    have hPl : P.length ≤ fa.length + fb.length := by rw [hP]; simp; omega
    clear hP
    obtain ⟨a, c, rfl⟩ := own_shape hL
    have hown : wr.ownsRow w3.heap.size 9 1 (.slice a P.length c) P.length (strs P) := hL
    by_cases hlt : k < fa.length
    · have hcell := (hbel.cell (p := ⟨gA, k, none⟩) (World.block_lt_of_cell? w3 _ (HCA.out k hlt))).trans (HCA.out k hlt)
      obtain ⟨s, hs⟩ : ∃ s : ByteArray, s = ⟨(fa.getD k []).toArray⟩ := ⟨_, rfl⟩
      have hsl : s.data.toList = fa.getD k [] := by rw [hs]
      have HS : Hid (P ++ [s.data.toList] = [] ++ fa.take (k + 1)) := by
        show _ = _
        rw [HP.out, hsl, take_next _ _ hlt, List.append_assoc]
      rw [← hs] at hcell
      clear hs hsl
      have hi0 : (k : Int) < (fa.length : Int) := by omega
      go_wp2_with (at_builtin; refine wpList_append_lies _ rfl _ _ 23 rfl w3.heap.size 9 i9 _ 1 16 Try.underlying23 hi9 hz0 hz1 hz2 rfl (by decide) (.slice a P.length c) P.length (strs P) rfl (hown.alloc _) ⟨wr.heap.size, 0, none⟩ 1 1 [.string s] rfl rfl (World.news_of_block (heap_alloc_new wr _)) (by simp [Value.oneCell']) (by decide) (by unfold maxLen; omega) (by omega) (by simp; omega) _ rfl ?_; intro g' cp' w5 hown5 hgrow5 h5 h6; clear h5 h6)
      go_roundw
      case rel =>
        refine ⟨k + 1, hlt, by go_num, ?_, (hbel.alloc (by omega) _).grown hgrow5 (by simp; omega) (fun j hj => (hown.lt j hj).1)⟩
        have hx := lst_add hown5
        rw [HS.out] at hx
        exact hx
      case measure => simp [intOf]; omega
    · obtain rfl : k = fa.length := by omega
      have hPe : P = fa := by rw [HP.out, List.take_length]; rfl
      have HR2 : PRel w3 fa fb (.slice a P.length c) (.int .i64 0) wr := by
        refine ⟨0, Nat.zero_le _, rfl, ?_, hbel⟩
        rw [List.take_zero, List.append_nil]
        rw [hPe] at hown ⊢
        exact hown
      clear hL hown HP hPl hPe hbel hlw hlt hk
      go_wp2_with fail
      go_loopw [9, 11] (fun v i wr => PRel w3 fa fb v i wr) (fun _ i _ => fb.length - (intOf i).toNat)
      case atStart => exact HR2
      case round =>
        clear HR2
        obtain ⟨k, hk, rfl, hL, hbel⟩ := hrel
        have hlw := hbel.size
        obtain ⟨P, hP⟩ : ∃ P, P = fa ++ fb.take k := ⟨_, rfl⟩
        rw [← hP] at hL
        have HP : Hid (P = fa ++ fb.take k) := hP
        have hPl : P.length ≤ fa.length + fb.length := by rw [hP]; simp; omega
        clear hP
        obtain ⟨a, c, rfl⟩ := own_shape hL
        have hown : wr.ownsRow w3.heap.size 9 1 (.slice a P.length c) P.length (strs P) := hL
        by_cases hlt : k < fb.length
        · have hcell := (hbel.cell (p := ⟨gB, k, none⟩) (World.block_lt_of_cell? w3 _ (HCB.out k hlt))).trans (HCB.out k hlt)
          obtain ⟨s, hs⟩ : ∃ s : ByteArray, s = ⟨(fb.getD k []).toArray⟩ := ⟨_, rfl⟩
          have hsl : s.data.toList = fb.getD k [] := by rw [hs]
          have HS : Hid (P ++ [s.data.toList] = fa ++ fb.take (k + 1)) := by
            show _ = _
            rw [HP.out, hsl, take_next _ _ hlt, List.append_assoc]
          rw [← hs] at hcell
          clear hs hsl
          have hi0 : (k : Int) < (fb.length : Int) := by omega
          go_wp2_with (at_builtin; refine wpList_append_lies _ rfl _ _ 23 rfl w3.heap.size 9 i9 _ 1 16 Try.underlying23 hi9 hz0 hz1 hz2 rfl (by decide) (.slice a P.length c) P.length (strs P) rfl (hown.alloc _) ⟨wr.heap.size, 0, none⟩ 1 1 [.string s] rfl rfl (World.news_of_block (heap_alloc_new wr _)) (by simp [Value.oneCell']) (by decide) (by unfold maxLen; omega) (by omega) (by simp; omega) _ rfl ?_; intro g' cp' w5 hown5 hgrow5 h5 h6; clear h5 h6)
          go_roundw
          case rel =>
            refine ⟨k + 1, hlt, by go_num, ?_, (hbel.alloc (by omega) _).grown hgrow5 (by simp; omega) (fun j hj => (hown.lt j hj).1)⟩
            have hx := lst_add hown5
            rw [HS.out] at hx
            exact hx
          case measure => simp [intOf]; omega
        · obtain rfl : k = fb.length := by omega
          have hPe : P = fa ++ fb := by rw [HP.out, List.take_length]
          have hL2 : Lst wr w3.heap.size (.slice a P.length c) (fa ++ fb) := by
            rw [hPe] at hown ⊢
            exact hown
          have RP := hL2.rd (by intro e; exact HNA.out (List.append_eq_nil_iff.1 e).1)
          have RW := RdL.keep HW.out hbel (Nat.le_refl _)
          have BW5 : Below w.heap.size w wr := BW.trans (hbel.mono l3)
          have hfl : (fa ++ fb).length ≤ 2097152 := by rw [List.length_append]; omega
          have hjl : (joinF (fa ++ fb)).length ≤ 2097152 := by
            rw [HJ.out]
            have e1 : a0.data.toList.length = a0.size := rfl
            have e2 : a1.data.toList.length = a1.size := rfl
            simp only [List.length_append, List.length_cons, e1, e2]; omega
          have hcat : (⟨(joinF (fa ++ fb)).toArray⟩ : ByteArray) = a0 ++ (⟨#[44]⟩ : ByteArray) ++ a1 := by rw [HJ.out, cat_back]
          have c8 := same8 _ _ (fa ++ fb) wr (by omega) RW RP
          have T11 : Hid (∀ w', Below w3.heap.size w3 w' → Calls Try.prog 11 #[.slice (some ⟨gW, 0, none⟩) (fa ++ fb).length cWc] w' (RetT w' (a0 ++ (⟨#[44]⟩ : ByteArray) ++ a1))) :=
            fun w' hw' => join11' _ (fa ++ fb) _ w' hfl hjl (RdL.keep HW.out hw' (Nat.le_refl _)) hcat
          rw [List.length_append] at c8 T11
          clear hcat hjl hfl RP RW hL2 hPe hown hL HP
          go_wp2_with fail
          refine c8.mono ?_
          rintro e _ ⟨rfl, m2, rfl⟩
          have hbd2 := below_drewN hbel m2
          have c11 := T11.out _ hbd2
          have BW6 := below_drewN BW5 m2
          generalize wr.drewN m2 = w6 at c11 BW6
          go_wp2_with fail
          refine c11.mono ?_
          rintro e w7 ⟨rfl, B7⟩
          go_wp2
          go_ret
          exact ⟨rfl, BW6.trans (B7.mono BW6.size)⟩

end Go.Proofs.Qxb6625863a
