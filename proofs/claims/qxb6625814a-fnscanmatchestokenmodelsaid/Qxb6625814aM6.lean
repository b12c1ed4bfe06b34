import Derived.Test.Qxb6625814aM5
import Derived.OwnWalk
namespace Go.Proofs.Qxb6625814a
open Go.RowKit
set_option linter.unusedVariables false
set_option linter.unusedSimpArgs false

/-- What the token model comes to. -/
def RetM (w : World) (B : Nat) (fin : Sc) (e : Ending) (w' : World) : Prop :=
  ∃ v, e = .returned (.tuple #[v, .int .u8 (fin.st : Int), .int .u8 (fin.q.toNat : Int), .int .i64 fin.op, .string ⟨(fin.bs ++ [10]).toArray⟩, .int .i64 fin.sn]) ∧ Stmts w' B v fin.out ∧ Below B w w'

/-- Ahead of the loop. -/
def CutM (w : World) (line : ByteArray) (n : Int) (q : UInt8) (op sn : Int) (fin : Sc) (vB vst vi : Value) (wr : World) : Prop :=
  ∃ (k st : Nat) (bs : List UInt8), k ≤ line.size ∧ vi = .int .i64 k ∧ vst = .int .u8 (st : Int) ∧ Hid (Goes n ⟨st, q, op, bs, sn, []⟩ (line.data.toList.drop k) fin) ∧ Buf wr w.heap.size vB bs ∧ Below w.heap.size w wr ∧ bs.length + (line.size - k) ≤ 1048576 ∧ (k < line.size → st = 0)

/-- The loop's relation. -/
def RelM (w : World) (line : ByteArray) (n : Int) (fin : Sc) (vS vB vst vq vop vsn vi : Value) (wr : World) : Prop :=
  ∃ (k st : Nat) (q : UInt8) (op sn : Int) (bs : List UInt8) (out : List (Int × List UInt8)), k ≤ line.size ∧ vi = .int .i64 k ∧ vst = .int .u8 (st : Int) ∧ vq = .int .u8 (q.toNat : Int) ∧ vop = .int .i64 op ∧ vsn = .int .i64 sn ∧ Hid (Goes n ⟨st, q, op, bs, sn, out⟩ (line.data.toList.drop k) fin) ∧ Stmts wr w.heap.size vS out ∧ Buf wr w.heap.size vB bs ∧ Below w.heap.size w wr ∧ bs.length + (line.size - k) ≤ 1048576 ∧ (k < line.size → st = 0) ∧ out.length ≤ k

theorem results_tmp6 {fn : Func} {t u v x y z : Tmp} (h : fn.results = #[.tmp t, .tmp u, .tmp v, .tmp x, .tmp y, .tmp z]) (tmps : Array Value) (P : Program) (w : World) :
    (results fn tmps).run P w = .ok (.tuple #[tmps.getD t undef, tmps.getD u undef, tmps.getD v undef, tmps.getD x undef, tmps.getD y undef, tmps.getD z undef]) w := by
  simp [results, h]

set_option maxRecDepth 100000 in
set_option maxHeartbeats 20000000 in
theorem model7 (st : Nat) (q : UInt8) (op : Int) (text : ByteArray) (sn : Int) (line : ByteArray) (n : Int) (w : World) (hl : text.size + line.size ≤ 1048576) (hst : st ≤ 2) (hq : st = 2 → q ≠ 92) :
    Calls Try.prog 7 #[.int .u8 (st : Int), .int .u8 (q.toNat : Int), .int .i64 op, .string text, .int .i64 sn, .string line, .int .i64 n] w (RetM w w.heap.size (scanF n line.size ⟨st, q, op, text.data.toList, sn, []⟩ line.data.toList)) := by
  obtain ⟨fin, hfin⟩ : ∃ fin, fin = scanF n line.size ⟨st, q, op, text.data.toList, sn, []⟩ line.data.toList := ⟨_, rfl⟩
  have HG : Hid (Goes n ⟨st, q, op, text.data.toList, sn, []⟩ line.data.toList fin) := by rw [hfin]; exact goes_start n _ line.data.toList
  rw [← hfin]
  clear hfin
  have hsz : line.size ≤ 2097152 := by omega
  obtain ⟨i0, hi, hz0, hz1, hz2⟩ := info_parts Try.info5
  go_enter Try.func7, Try.ntmps7
  go_wp2_with (at_make; refine wpList_make_own _ rfl _ _ 35 rfl w.heap.size 5 i0 (.int .u8 0) 1 Try.underlying35 hi hz0 hz1 _ _ _ (text.size + line.size + 1) rfl rfl (by omega) ?b2 ?b3 (Nat.le_refl _) ?_)
  case b2 => rw [hz2]; omega
  case b3 => unfold maxLen; omega
  intro w0 hown0 hgrow0
  have hl0 := hgrow0.size
  have hbel0 : Below w.heap.size w w0 := (Below.refl _ _).grown hgrow0 (Nat.le_refl _) (fun k h => by cases h)
  go_upto_if 47 with (at_builtin; refine Lib.wpList_append_own_string _ rfl _ _ 35 9 rfl w.heap.size 5 i0 Try.underlying35 Try.underlying9 hi hz0 hz1 hz2 (.slice (some ⟨w.heap.size, 0, none⟩) 0 (text.size + line.size + 1)) 0 [] rfl hown0 text rfl (by unfold maxLen; omega) (by omega) (by omega) ?_; intro v1 w1 hown1 hgrow1 hnn; clear hnn; obtain ⟨a1, c1, hv⟩ := own_shape hown1; subst hv)
  have hbel1 : Below w.heap.size w w1 := hbel0.grown hgrow1 (by omega) (fun k hk => (hown0.lt k hk).1)
  have hl1 := hbel1.size
  have hB1 : Buf w1 w.heap.size (.slice a1 (0 + text.size) c1) text.data.toList := by
    have := @Buf.str_add w w1 w.heap.size (.slice a1 (0 + text.size) c1) (.slice a1 (0 + text.size) c1) [] text hown1
    exact this
  have ht : text.data.toList.length = text.size := rfl
  have hB1' : Buf w1 w.heap.size (.slice a1 text.size c1) text.data.toList := by rw [Nat.zero_add] at hB1; exact hB1
  have hown1' : w1.ownsRow w.heap.size 5 1 (.slice a1 text.size c1) text.size (Lib.byteCells text.data.toList) := hB1'
  clear hown1 hgrow1 hgrow0 hown0 hbel0 hl0 hB1
  clear w0
  go_cut [21, 22, 26] from 27 (fun vB vst vi wx => CutM w line n q op sn fin vB vst vi wx)
  case first =>
    have hE : st = 0 ∨ st = 1 ∨ st = 2 := by omega
    rcases hE with rfl | rfl | rfl
    · go_wp2
      go_meet
      case rel => exact ⟨0, 0, text.data.toList, Nat.zero_le _, rfl, rfl, HG, hB1', hbel1, by omega, fun _ => rfl⟩
    · cases hb : bE (line.data.toList.drop 0) with
      | none =>
        have HG' : Hid (Goes n ⟨1, q, op, text.data.toList ++ line.data.toList, sn, []⟩ (line.data.toList.drop line.size) fin) := L_block0n HG.out hb
        have c13 := fun w => block13n (a := 0) (i := 0) w rfl hsz (Nat.zero_le _) hb
        clear hb HG
        go_wp2_with fail
        refine (c13 _).mono ?_
        rintro e _ ⟨rfl, rfl⟩
        go_wp2_with (at_builtin; refine Lib.wpList_append_own_string _ rfl _ _ 35 9 rfl w.heap.size 5 i0 Try.underlying35 Try.underlying9 hi hz0 hz1 hz2 (.slice a1 text.size c1) text.size (Lib.byteCells text.data.toList) rfl hown1' line rfl (by unfold maxLen; omega) (by omega) (by omega) ?_; intro v2 w2 hown2 hgrow2 hnn; clear hnn)
        go_meet
        case rel => exact ⟨line.size, 1, _, Nat.le_refl _, rfl, rfl, HG', Buf.str_add (w := w) (v := v2) hown2, hbel1.grown hgrow2 (by omega) (fun k hk => (hown1'.lt k hk).1), by simp [len_list]; omega, fun h => absurd h (by omega)⟩
      | some e =>
        obtain ⟨he, hG2⟩ := L_block0s HG.out hb
        have HG' : Hid (Goes n ⟨0, q, op, text.data.toList ++ (line.extract 0 (e + 2)).data.toList, sn, []⟩ (line.data.toList.drop (e + 2)) fin) := hG2
        have c13 := fun w => block13s (a := 0) (i := 0) w rfl hsz (Nat.zero_le _) hb (Nat.zero_add e).symm
        have hxs : (line.extract 0 (e + 2)).size = e + 2 := by simp; omega
        clear hb HG hG2
        go_wp2_with fail
        refine (c13 _).mono ?_
        rintro e' _ ⟨rfl, rfl⟩
        go_wp2_with (at_builtin; refine Lib.wpList_append_own_string _ rfl _ _ 35 9 rfl w.heap.size 5 i0 Try.underlying35 Try.underlying9 hi hz0 hz1 hz2 (.slice a1 text.size c1) text.size (Lib.byteCells text.data.toList) rfl hown1' (line.extract 0 (e + 2)) rfl (by rw [hxs]; unfold maxLen; omega) (by rw [hxs]; omega) (by omega) ?_; intro v2 w2 hown2 hgrow2 hnn; clear hnn)
        go_meet
        case rel => exact ⟨e + 2, 0, _, he, by go_num, rfl, HG', Buf.str_add (w := w) (v := v2) hown2, hbel1.grown hgrow2 (by omega) (fun k hk => (hown1'.lt k hk).1), by rw [List.length_append, len_list, len_list, hxs]; omega, fun _ => rfl⟩
    · have hq92 := hq rfl
      cases hb : qE q (line.data.toList.drop 0) with
      | none =>
        have HG' : Hid (Goes n ⟨2, q, op, text.data.toList ++ line.data.toList, sn, []⟩ (line.data.toList.drop line.size) fin) := L_quote0n hq92 HG.out hb
        have c13 := fun w => quote14n (a := 0) (i := 0) w rfl hsz (Nat.zero_le _) hq92 hb
        clear hb HG hq hq92
        go_wp2_with fail
        refine (c13 _).mono ?_
        rintro e _ ⟨rfl, rfl⟩
        go_wp2_with (at_builtin; refine Lib.wpList_append_own_string _ rfl _ _ 35 9 rfl w.heap.size 5 i0 Try.underlying35 Try.underlying9 hi hz0 hz1 hz2 (.slice a1 text.size c1) text.size (Lib.byteCells text.data.toList) rfl hown1' line rfl (by unfold maxLen; omega) (by omega) (by omega) ?_; intro v2 w2 hown2 hgrow2 hnn; clear hnn)
        go_meet
        case rel => exact ⟨line.size, 2, _, Nat.le_refl _, rfl, rfl, HG', Buf.str_add (w := w) (v := v2) hown2, hbel1.grown hgrow2 (by omega) (fun k hk => (hown1'.lt k hk).1), by simp [len_list]; omega, fun h => absurd h (by omega)⟩
      | some e =>
        obtain ⟨he, hG2⟩ := L_quote0s hq92 HG.out hb
        have HG' : Hid (Goes n ⟨0, q, op, text.data.toList ++ (line.extract 0 (e + 1)).data.toList, sn, []⟩ (line.data.toList.drop (e + 1)) fin) := hG2
        have c13 := fun w => quote14s (a := 0) (i := 0) w rfl hsz (Nat.zero_le _) hq92 hb (Nat.zero_add e).symm
        have hxs : (line.extract 0 (e + 1)).size = e + 1 := by simp; omega
        clear hb HG hG2 hq hq92
        go_wp2_with fail
        refine (c13 _).mono ?_
        rintro e' _ ⟨rfl, rfl⟩
        go_wp2_with (at_builtin; refine Lib.wpList_append_own_string _ rfl _ _ 35 9 rfl w.heap.size 5 i0 Try.underlying35 Try.underlying9 hi hz0 hz1 hz2 (.slice a1 text.size c1) text.size (Lib.byteCells text.data.toList) rfl hown1' (line.extract 0 (e + 1)) rfl (by rw [hxs]; unfold maxLen; omega) (by rw [hxs]; omega) (by omega) ?_; intro v2 w2 hown2 hgrow2 hnn; clear hnn)
        go_meet
        case rel => exact ⟨e + 1, 0, _, he, by go_num, rfl, HG', Buf.str_add (w := w) (v := v2) hown2, hbel1.grown hgrow2 (by omega) (fun k hk => (hown1'.lt k hk).1), by rw [List.length_append, len_list, len_list, hxs]; omega, fun _ => rfl⟩
  case rest =>
    clear hB1' hown1' hbel1 HG hq hst
    obtain ⟨k0, st0, bs0, hk0, rfl, rfl, HG0, hB0, hbel0, hlen0, hst0⟩ := hcut
    have HR : RelM w line n fin (.slice none 0 0) u21 (.int .u8 (st0 : Int)) (.int .u8 (q.toNat : Int)) (.int .i64 op) (.int .i64 sn) (.int .i64 k0) wc := ⟨k0, st0, q, op, sn, bs0, [], hk0, rfl, rfl, rfl, rfl, rfl, HG0, ⟨World.ownsRow_nil _ _ _ _, fun _ => rfl⟩, hB0, hbel0, hlen0, hst0, Nat.zero_le _⟩
    clear HG0 hB0 hlen0 hst0 hbel0
    go_wp2_with fail
    go_loopw [20, 21, 22, 23, 24, 25, 26, 29, 30, 31] (fun vS vB vst vq vop vsn vi _ _ _ wr => RelM w line n fin vS vB vst vq vop vsn vi wr) (fun _ _ _ _ _ _ vi _ _ _ _ => line.size - (intOf vi).toNat)
    case atStart => exact HR
    case round =>
      clear HR
      obtain ⟨k, st, q, op, sn, bs, out, hk, rfl, rfl, rfl, rfl, rfl, HG, hSt, hB, hbel, hlen, hst, hol⟩ := hrel
      obtain ⟨a, c, rfl⟩ := own_shape hB
      have hown : wr.ownsRow w.heap.size 5 1 (.slice a bs.length c) bs.length (Lib.byteCells bs) := hB
      have hlw := hbel.size
      by_cases hlt : k < line.size
      · obtain rfl : st = 0 := hst hlt
        clear hst
        by_cases h35 : line[k] = 35
        · have H35 : Hid (line[k] = 35) := h35
          clear h35
          · as_aux_lemma =>
              have HG2 : Hid (Goes n ⟨0, q, op, bs ++ (line.extract k line.size).data.toList, sn, out⟩ (line.data.toList.drop line.size) fin) := L_K hlt HG.out (.inl H35.out)
              clear HG
              have hxs : (line.extract k line.size).size = line.size - k := size_at line k
              have t35 : ((line[k].toNat : Int) == 35) = true := b_yes H35.out
              clear H35
              go_wp2_with (at_builtin; refine Lib.wpList_append_own_string _ rfl _ _ 35 9 rfl w.heap.size 5 i0 Try.underlying35 Try.underlying9 hi hz0 hz1 hz2 (.slice a bs.length c) bs.length (Lib.byteCells bs) rfl hown (line.extract k (line.size)) rfl (by rw [hxs]; unfold maxLen; omega) (by rw [hxs]; omega) (by omega) ?_; intro v2 w2 hown2 hgrow2 hnn; clear hnn)
              have hB2 : Buf w2 w.heap.size v2 (bs ++ (line.extract k (line.size)).data.toList) := Buf.str_add (w := w) (v := v2) (bs := bs) hown2
              have hbel2 : Below w.heap.size w w2 := hbel.grown hgrow2 (by omega) (fun k hk => (hown.lt k hk).1)
              have hSt2 : Stmts w2 w.heap.size u20 out := ⟨own_grown hSt.1 hgrow2 hown (by decide), hSt.2⟩
              go_roundw
              case rel => exact ⟨line.size, 0, q, op, sn, _, _, by omega, by go_num, rfl, rfl, rfl, rfl, HG2, hSt2, hB2, hbel2, by rw [List.length_append, len_list, hxs]; (try simp only [List.length_nil]); omega, fun _ => rfl, by omega⟩
              case measure => simp [intOf]; omega
        · have t35 : ((line[k].toNat : Int) == 35) = false := b_no h35
          have H35 : Hid (line[k] ≠ 35) := h35
          clear h35
          by_cases hdash : line[k] = 45 ∧ dashC (line.data.toList.drop (k + 1)) = true
          · have HDS : Hid (line[k] = 45 ∧ dashC (line.data.toList.drop (k + 1)) = true) := hdash
            clear hdash
            · as_aux_lemma =>
                have HG2 : Hid (Goes n ⟨0, q, op, bs ++ (line.extract k line.size).data.toList, sn, out⟩ (line.data.toList.drop line.size) fin) := L_K hlt HG.out (.inr HDS.out)
                clear HG
                have hxs : (line.extract k line.size).size = line.size - k := size_at line k
                have c15 := dash15 line k wr hsz hlt
                rw [show (decide (line[k] = 45) && dashC (line.data.toList.drop (k + 1))) = true by rw [HDS.out.2, decide_eq_true HDS.out.1]; rfl] at c15
                clear HDS H35
                go_wp2_with fail
                refine c15.mono ?_
                rintro e _ ⟨rfl, rfl⟩
                go_wp2_with (at_builtin; refine Lib.wpList_append_own_string _ rfl _ _ 35 9 rfl w.heap.size 5 i0 Try.underlying35 Try.underlying9 hi hz0 hz1 hz2 (.slice a bs.length c) bs.length (Lib.byteCells bs) rfl hown (line.extract k (line.size)) rfl (by rw [hxs]; unfold maxLen; omega) (by rw [hxs]; omega) (by omega) ?_; intro v2 w2 hown2 hgrow2 hnn; clear hnn)
                have hB2 : Buf w2 w.heap.size v2 (bs ++ (line.extract k (line.size)).data.toList) := Buf.str_add (w := w) (v := v2) (bs := bs) hown2
                have hbel2 : Below w.heap.size w w2 := hbel.grown hgrow2 (by omega) (fun k hk => (hown.lt k hk).1)
                have hSt2 : Stmts w2 w.heap.size u20 out := ⟨own_grown hSt.1 hgrow2 hown (by decide), hSt.2⟩
                go_roundw
                case rel => exact ⟨line.size, 0, q, op, sn, _, _, by omega, by go_num, rfl, rfl, rfl, rfl, HG2, hSt2, hB2, hbel2, by rw [List.length_append, len_list, hxs]; (try simp only [List.length_nil]); omega, fun _ => rfl, by omega⟩
                case measure => simp [intOf]; omega
          · have HNK : Hid (¬ (line[k] = 35 ∨ (line[k] = 45 ∧ dashC (line.data.toList.drop (k + 1)) = true))) := fun h => h.elim H35.out hdash
            have c15 := dash15 line k wr hsz hlt
            rw [show (decide (line[k] = 45) && dashC (line.data.toList.drop (k + 1))) = false by
              by_cases h45 : line[k] = 45
              · rw [decide_eq_true h45, Bool.true_and]
                cases hdc : dashC (line.data.toList.drop (k + 1)) with
                | false => rfl
                | true => exact absurd ⟨h45, hdc⟩ hdash
              · rw [decide_eq_false h45, Bool.false_and]] at c15
            clear hdash H35
            by_cases h47 : line[k] = 47
            · have t47 : ((line[k].toNat : Int) == 47) = true := b_yes h47
              have H47 : Hid (line[k] = 47) := h47
              clear h47
              by_cases hk1 : k + 1 < line.size
              · by_cases h42 : line[k + 1] = 42
                · have t42 : ((line[k + 1].toNat : Int) == 42) = true := b_yes h42
                  have H42 : Hid (line[k + 1] = 42) := h42
                  clear h42 HNK
                  by_cases hk2 : k + 2 < line.size
                  · by_cases h33 : (line.data.toList.drop (k + 2)).head? = some 33
                    · have H33 : Hid ((line.data.toList.drop (k + 2)).head? = some 33) := h33
                      clear h33
                      by_cases hs0 : sn = 0
                      · have hsn : Hid (sn = 0) := hs0
                        clear hs0
                        cases hb : bE (line.data.toList.drop (k + 2)) with
                        | none =>
                          have HE : Hid (bE (line.data.toList.drop (k + 2)) = none) := hb
                          clear hb
                          as_aux_lemma =>
                            have HG2 : Hid (Goes n ⟨1, q, n, [] ++ (line.extract k line.size).data.toList, n, out⟩ (line.data.toList.drop line.size) fin) := L_Sn (bs' := []) (sn' := n) hk1 HG.out H47.out H42.out (.inl ⟨H33.out, hsn.out, rfl, rfl⟩) HE.out
                            have c13 := fun w => block13n (i := (k : Int) + 2) w rfl hsz (by omega) HE.out
                            have hxs : (line.extract k line.size).size = line.size - k := size_at line k
                            clear HE
                            clear HG
                            have t33 : ((line[k + 2].toNat : Int) == 33) = true := b_yes (Option.some.inj ((head_at hk2).symm.trans H33.out))
                            have tsn : (sn == 0) = true := beq_iff_eq.2 hsn.out
                            clear H33 hsn
                            have hcut : wr.ownsRow w.heap.size 5 1 (.slice a 0 c) 0 (Lib.byteCells []) := Buf.cut hB
                            clear H47 H42
                            go_wp2_with fail
                            refine c15.mono ?_
                            rintro e _ ⟨rfl, rfl⟩
                            go_wp2_with fail
                            refine (c13 _).mono ?_
                            rintro e1 _ ⟨rfl, rfl⟩
                            go_wp2_with (at_builtin; refine Lib.wpList_append_own_string _ rfl _ _ 35 9 rfl w.heap.size 5 i0 Try.underlying35 Try.underlying9 hi hz0 hz1 hz2 (.slice a 0 c) 0 (Lib.byteCells []) rfl hcut (line.extract k (line.size)) rfl (by rw [hxs]; unfold maxLen; omega) (by rw [hxs]; omega) (by omega) ?_; intro v2 w2 hown2 hgrow2 hnn; clear hnn)
                            have hB2 : Buf w2 w.heap.size v2 ([] ++ (line.extract k (line.size)).data.toList) := Buf.str_add (w := w) (v := v2) (bs := []) hown2
                            have hbel2 : Below w.heap.size w w2 := hbel.grown hgrow2 (by omega) (fun k hk => (hcut.lt k hk).1)
                            have hSt2 : Stmts w2 w.heap.size u20 out := ⟨own_grown hSt.1 hgrow2 hcut (by decide), hSt.2⟩
                            go_roundw
                            case rel => exact ⟨line.size, 1, q, n, n, _, _, by omega, by go_num, rfl, rfl, rfl, rfl, HG2, hSt2, hB2, hbel2, by rw [List.length_append, len_list, hxs]; (try simp only [List.length_nil]); omega, fun h => absurd h (by omega), by omega⟩
                            case measure => simp [intOf]; omega
                        | some e0 =>
                          have HE : Hid (∃ e, bE (line.data.toList.drop (k + 2)) = some e) := ⟨e0, hb⟩
                          clear hb
                          as_aux_lemma =>
                            obtain ⟨e, he⟩ : ∃ e, bE (line.data.toList.drop (k + 2)) = some e := HE.out
                            obtain ⟨E, hE⟩ : ∃ E, E = k + 2 + e := ⟨_, rfl⟩
                            obtain ⟨hEs, hG2⟩ := L_Ss (bs' := []) (sn' := n) hk1 HG.out H47.out H42.out (.inl ⟨H33.out, hsn.out, rfl, rfl⟩) he hE
                            have HG2 : Hid (Goes n ⟨0, q, n, [] ++ (line.extract k (E + 2)).data.toList, n, out⟩ (line.data.toList.drop (E + 2)) fin) := hG2
                            have c13 := fun w => block13s (i := (k : Int) + 2) w rfl hsz (by omega) he hE
                            have hkE : k + 2 ≤ E := by omega
                            have hxs : (line.extract k (E + 2)).size = E + 2 - k := by simp; omega
                            clear hG2 he hE HE
                            clear HG
                            have t33 : ((line[k + 2].toNat : Int) == 33) = true := b_yes (Option.some.inj ((head_at hk2).symm.trans H33.out))
                            have tsn : (sn == 0) = true := beq_iff_eq.2 hsn.out
                            clear H33 hsn
                            have hcut : wr.ownsRow w.heap.size 5 1 (.slice a 0 c) 0 (Lib.byteCells []) := Buf.cut hB
                            clear H47 H42
                            go_wp2_with fail
                            refine c15.mono ?_
                            rintro e _ ⟨rfl, rfl⟩
                            go_wp2_with fail
                            refine (c13 _).mono ?_
                            rintro e1 _ ⟨rfl, rfl⟩
                            go_wp2_with (at_builtin; refine Lib.wpList_append_own_string _ rfl _ _ 35 9 rfl w.heap.size 5 i0 Try.underlying35 Try.underlying9 hi hz0 hz1 hz2 (.slice a 0 c) 0 (Lib.byteCells []) rfl hcut (line.extract k (E + 2)) rfl (by rw [hxs]; unfold maxLen; omega) (by rw [hxs]; omega) (by omega) ?_; intro v2 w2 hown2 hgrow2 hnn; clear hnn)
                            have hB2 : Buf w2 w.heap.size v2 ([] ++ (line.extract k (E + 2)).data.toList) := Buf.str_add (w := w) (v := v2) (bs := []) hown2
                            have hbel2 : Below w.heap.size w w2 := hbel.grown hgrow2 (by omega) (fun k hk => (hcut.lt k hk).1)
                            have hSt2 : Stmts w2 w.heap.size u20 out := ⟨own_grown hSt.1 hgrow2 hcut (by decide), hSt.2⟩
                            go_roundw
                            case rel => exact ⟨E + 2, 0, q, n, n, _, _, by omega, by go_num, rfl, rfl, rfl, rfl, HG2, hSt2, hB2, hbel2, by rw [List.length_append, len_list, hxs]; (try simp only [List.length_nil]); omega, fun _ => rfl, by omega⟩
                            case measure => simp [intOf]; omega
                      · have hsn : Hid (sn ≠ 0) := hs0
                        clear hs0
                        cases hb : bE (line.data.toList.drop (k + 2)) with
                        | none =>
                          have HE : Hid (bE (line.data.toList.drop (k + 2)) = none) := hb
                          clear hb
                          as_aux_lemma =>
                            have HG2 : Hid (Goes n ⟨1, q, n, bs ++ (line.extract k line.size).data.toList, sn, out⟩ (line.data.toList.drop line.size) fin) := L_Sn (bs' := bs) (sn' := sn) hk1 HG.out H47.out H42.out (.inr ⟨fun h => hsn.out h.2, rfl, rfl⟩) HE.out
                            have c13 := fun w => block13n (i := (k : Int) + 2) w rfl hsz (by omega) HE.out
                            have hxs : (line.extract k line.size).size = line.size - k := size_at line k
                            clear HE
                            clear HG
                            have t33 : ((line[k + 2].toNat : Int) == 33) = true := b_yes (Option.some.inj ((head_at hk2).symm.trans H33.out))
                            have tsn : (sn == 0) = false := beq_eq_false_iff_ne.2 hsn.out
                            clear H33 hsn
                            clear H47 H42
                            go_wp2_with fail
                            refine c15.mono ?_
                            rintro e _ ⟨rfl, rfl⟩
                            go_wp2_with fail
                            refine (c13 _).mono ?_
                            rintro e1 _ ⟨rfl, rfl⟩
                            go_wp2_with (at_builtin; refine Lib.wpList_append_own_string _ rfl _ _ 35 9 rfl w.heap.size 5 i0 Try.underlying35 Try.underlying9 hi hz0 hz1 hz2 (.slice a bs.length c) bs.length (Lib.byteCells bs) rfl hown (line.extract k (line.size)) rfl (by rw [hxs]; unfold maxLen; omega) (by rw [hxs]; omega) (by omega) ?_; intro v2 w2 hown2 hgrow2 hnn; clear hnn)
                            have hB2 : Buf w2 w.heap.size v2 (bs ++ (line.extract k (line.size)).data.toList) := Buf.str_add (w := w) (v := v2) (bs := bs) hown2
                            have hbel2 : Below w.heap.size w w2 := hbel.grown hgrow2 (by omega) (fun k hk => (hown.lt k hk).1)
                            have hSt2 : Stmts w2 w.heap.size u20 out := ⟨own_grown hSt.1 hgrow2 hown (by decide), hSt.2⟩
                            go_roundw
                            case rel => exact ⟨line.size, 1, q, n, sn, _, _, by omega, by go_num, rfl, rfl, rfl, rfl, HG2, hSt2, hB2, hbel2, by rw [List.length_append, len_list, hxs]; (try simp only [List.length_nil]); omega, fun h => absurd h (by omega), by omega⟩
                            case measure => simp [intOf]; omega
                        | some e0 =>
                          have HE : Hid (∃ e, bE (line.data.toList.drop (k + 2)) = some e) := ⟨e0, hb⟩
                          clear hb
                          as_aux_lemma =>
                            obtain ⟨e, he⟩ : ∃ e, bE (line.data.toList.drop (k + 2)) = some e := HE.out
                            obtain ⟨E, hE⟩ : ∃ E, E = k + 2 + e := ⟨_, rfl⟩
                            obtain ⟨hEs, hG2⟩ := L_Ss (bs' := bs) (sn' := sn) hk1 HG.out H47.out H42.out (.inr ⟨fun h => hsn.out h.2, rfl, rfl⟩) he hE
                            have HG2 : Hid (Goes n ⟨0, q, n, bs ++ (line.extract k (E + 2)).data.toList, sn, out⟩ (line.data.toList.drop (E + 2)) fin) := hG2
                            have c13 := fun w => block13s (i := (k : Int) + 2) w rfl hsz (by omega) he hE
                            have hkE : k + 2 ≤ E := by omega
                            have hxs : (line.extract k (E + 2)).size = E + 2 - k := by simp; omega
                            clear hG2 he hE HE
                            clear HG
                            have t33 : ((line[k + 2].toNat : Int) == 33) = true := b_yes (Option.some.inj ((head_at hk2).symm.trans H33.out))
                            have tsn : (sn == 0) = false := beq_eq_false_iff_ne.2 hsn.out
                            clear H33 hsn
                            clear H47 H42
                            go_wp2_with fail
                            refine c15.mono ?_
                            rintro e _ ⟨rfl, rfl⟩
                            go_wp2_with fail
                            refine (c13 _).mono ?_
                            rintro e1 _ ⟨rfl, rfl⟩
                            go_wp2_with (at_builtin; refine Lib.wpList_append_own_string _ rfl _ _ 35 9 rfl w.heap.size 5 i0 Try.underlying35 Try.underlying9 hi hz0 hz1 hz2 (.slice a bs.length c) bs.length (Lib.byteCells bs) rfl hown (line.extract k (E + 2)) rfl (by rw [hxs]; unfold maxLen; omega) (by rw [hxs]; omega) (by omega) ?_; intro v2 w2 hown2 hgrow2 hnn; clear hnn)
                            have hB2 : Buf w2 w.heap.size v2 (bs ++ (line.extract k (E + 2)).data.toList) := Buf.str_add (w := w) (v := v2) (bs := bs) hown2
                            have hbel2 : Below w.heap.size w w2 := hbel.grown hgrow2 (by omega) (fun k hk => (hown.lt k hk).1)
                            have hSt2 : Stmts w2 w.heap.size u20 out := ⟨own_grown hSt.1 hgrow2 hown (by decide), hSt.2⟩
                            go_roundw
                            case rel => exact ⟨E + 2, 0, q, n, sn, _, _, by omega, by go_num, rfl, rfl, rfl, rfl, HG2, hSt2, hB2, hbel2, by rw [List.length_append, len_list, hxs]; (try simp only [List.length_nil]); omega, fun _ => rfl, by omega⟩
                            case measure => simp [intOf]; omega
                    · have H33 : Hid ((line.data.toList.drop (k + 2)).head? ≠ some 33) := h33
                      clear h33
                      cases hb : bE (line.data.toList.drop (k + 2)) with
                      | none =>
                        have HE : Hid (bE (line.data.toList.drop (k + 2)) = none) := hb
                        clear hb
                        as_aux_lemma =>
                          have HG2 : Hid (Goes n ⟨1, q, n, bs ++ (line.extract k line.size).data.toList, sn, out⟩ (line.data.toList.drop line.size) fin) := L_Sn (bs' := bs) (sn' := sn) hk1 HG.out H47.out H42.out (.inr ⟨fun h => H33.out h.1, rfl, rfl⟩) HE.out
                          have c13 := fun w => block13n (i := (k : Int) + 2) w rfl hsz (by omega) HE.out
                          have hxs : (line.extract k line.size).size = line.size - k := size_at line k
                          clear HE
                          clear HG
                          have t33 : ((line[k + 2].toNat : Int) == 33) = false := b_no (show line[k + 2] ≠ 33 from fun h => H33.out ((head_at hk2).trans (congrArg some h)))
                          clear H33
                          clear H47 H42
                          go_wp2_with fail
                          refine c15.mono ?_
                          rintro e _ ⟨rfl, rfl⟩
                          go_wp2_with fail
                          refine (c13 _).mono ?_
                          rintro e1 _ ⟨rfl, rfl⟩
                          go_wp2_with (at_builtin; refine Lib.wpList_append_own_string _ rfl _ _ 35 9 rfl w.heap.size 5 i0 Try.underlying35 Try.underlying9 hi hz0 hz1 hz2 (.slice a bs.length c) bs.length (Lib.byteCells bs) rfl hown (line.extract k (line.size)) rfl (by rw [hxs]; unfold maxLen; omega) (by rw [hxs]; omega) (by omega) ?_; intro v2 w2 hown2 hgrow2 hnn; clear hnn)
                          have hB2 : Buf w2 w.heap.size v2 (bs ++ (line.extract k (line.size)).data.toList) := Buf.str_add (w := w) (v := v2) (bs := bs) hown2
                          have hbel2 : Below w.heap.size w w2 := hbel.grown hgrow2 (by omega) (fun k hk => (hown.lt k hk).1)
                          have hSt2 : Stmts w2 w.heap.size u20 out := ⟨own_grown hSt.1 hgrow2 hown (by decide), hSt.2⟩
                          go_roundw
                          case rel => exact ⟨line.size, 1, q, n, sn, _, _, by omega, by go_num, rfl, rfl, rfl, rfl, HG2, hSt2, hB2, hbel2, by rw [List.length_append, len_list, hxs]; (try simp only [List.length_nil]); omega, fun h => absurd h (by omega), by omega⟩
                          case measure => simp [intOf]; omega
                      | some e0 =>
                        have HE : Hid (∃ e, bE (line.data.toList.drop (k + 2)) = some e) := ⟨e0, hb⟩
                        clear hb
                        as_aux_lemma =>
                          obtain ⟨e, he⟩ : ∃ e, bE (line.data.toList.drop (k + 2)) = some e := HE.out
                          obtain ⟨E, hE⟩ : ∃ E, E = k + 2 + e := ⟨_, rfl⟩
                          obtain ⟨hEs, hG2⟩ := L_Ss (bs' := bs) (sn' := sn) hk1 HG.out H47.out H42.out (.inr ⟨fun h => H33.out h.1, rfl, rfl⟩) he hE
                          have HG2 : Hid (Goes n ⟨0, q, n, bs ++ (line.extract k (E + 2)).data.toList, sn, out⟩ (line.data.toList.drop (E + 2)) fin) := hG2
                          have c13 := fun w => block13s (i := (k : Int) + 2) w rfl hsz (by omega) he hE
                          have hkE : k + 2 ≤ E := by omega
                          have hxs : (line.extract k (E + 2)).size = E + 2 - k := by simp; omega
                          clear hG2 he hE HE
                          clear HG
                          have t33 : ((line[k + 2].toNat : Int) == 33) = false := b_no (show line[k + 2] ≠ 33 from fun h => H33.out ((head_at hk2).trans (congrArg some h)))
                          clear H33
                          clear H47 H42
                          go_wp2_with fail
                          refine c15.mono ?_
                          rintro e _ ⟨rfl, rfl⟩
                          go_wp2_with fail
                          refine (c13 _).mono ?_
                          rintro e1 _ ⟨rfl, rfl⟩
                          go_wp2_with (at_builtin; refine Lib.wpList_append_own_string _ rfl _ _ 35 9 rfl w.heap.size 5 i0 Try.underlying35 Try.underlying9 hi hz0 hz1 hz2 (.slice a bs.length c) bs.length (Lib.byteCells bs) rfl hown (line.extract k (E + 2)) rfl (by rw [hxs]; unfold maxLen; omega) (by rw [hxs]; omega) (by omega) ?_; intro v2 w2 hown2 hgrow2 hnn; clear hnn)
                          have hB2 : Buf w2 w.heap.size v2 (bs ++ (line.extract k (E + 2)).data.toList) := Buf.str_add (w := w) (v := v2) (bs := bs) hown2
                          have hbel2 : Below w.heap.size w w2 := hbel.grown hgrow2 (by omega) (fun k hk => (hown.lt k hk).1)
                          have hSt2 : Stmts w2 w.heap.size u20 out := ⟨own_grown hSt.1 hgrow2 hown (by decide), hSt.2⟩
                          go_roundw
                          case rel => exact ⟨E + 2, 0, q, n, sn, _, _, by omega, by go_num, rfl, rfl, rfl, rfl, HG2, hSt2, hB2, hbel2, by rw [List.length_append, len_list, hxs]; (try simp only [List.length_nil]); omega, fun _ => rfl, by omega⟩
                          case measure => simp [intOf]; omega
                  · skip
                    cases hb : bE (line.data.toList.drop (k + 2)) with
                    | none =>
                      have HE : Hid (bE (line.data.toList.drop (k + 2)) = none) := hb
                      clear hb
                      as_aux_lemma =>
                        have HG2 : Hid (Goes n ⟨1, q, n, bs ++ (line.extract k line.size).data.toList, sn, out⟩ (line.data.toList.drop line.size) fin) := L_Sn (bs' := bs) (sn' := sn) hk1 HG.out H47.out H42.out (.inr ⟨(fun h => by have h1 := h.1; rw [drop_end hk2] at h1; cases h1), rfl, rfl⟩) HE.out
                        have c13 := fun w => block13n (i := (k : Int) + 2) w rfl hsz (by omega) HE.out
                        have hxs : (line.extract k line.size).size = line.size - k := size_at line k
                        clear HE
                        clear HG
                        have hk2d : decide ((k : Int) + 2 < (line.size : Int)) = false := by simp; omega
                        clear H47 H42
                        go_wp2_with fail
                        refine c15.mono ?_
                        rintro e _ ⟨rfl, rfl⟩
                        go_wp2_with fail
                        refine (c13 _).mono ?_
                        rintro e1 _ ⟨rfl, rfl⟩
                        go_wp2_with (at_builtin; refine Lib.wpList_append_own_string _ rfl _ _ 35 9 rfl w.heap.size 5 i0 Try.underlying35 Try.underlying9 hi hz0 hz1 hz2 (.slice a bs.length c) bs.length (Lib.byteCells bs) rfl hown (line.extract k (line.size)) rfl (by rw [hxs]; unfold maxLen; omega) (by rw [hxs]; omega) (by omega) ?_; intro v2 w2 hown2 hgrow2 hnn; clear hnn)
                        have hB2 : Buf w2 w.heap.size v2 (bs ++ (line.extract k (line.size)).data.toList) := Buf.str_add (w := w) (v := v2) (bs := bs) hown2
                        have hbel2 : Below w.heap.size w w2 := hbel.grown hgrow2 (by omega) (fun k hk => (hown.lt k hk).1)
                        have hSt2 : Stmts w2 w.heap.size u20 out := ⟨own_grown hSt.1 hgrow2 hown (by decide), hSt.2⟩
                        go_roundw
                        case rel => exact ⟨line.size, 1, q, n, sn, _, _, by omega, by go_num, rfl, rfl, rfl, rfl, HG2, hSt2, hB2, hbel2, by rw [List.length_append, len_list, hxs]; (try simp only [List.length_nil]); omega, fun h => absurd h (by omega), by omega⟩
                        case measure => simp [intOf]; omega
                    | some e0 =>
                      have HE : Hid (∃ e, bE (line.data.toList.drop (k + 2)) = some e) := ⟨e0, hb⟩
                      clear hb
                      as_aux_lemma =>
                        exfalso
                        obtain ⟨e, he⟩ := HE.out
                        rw [drop_end hk2] at he
                        exact absurd he (by simp [bE])
                · have t42 : ((line[k + 1].toNat : Int) == 42) = false := b_no h42
                  have HNS : Hid (¬ (line[k] = 47 ∧ (line.data.toList.drop (k + 1)).head? = some 42)) := fun h => h42 (by have h2 := h.2; rw [head_at hk1] at h2; simpa using h2)
                  clear h42
                  have H59 : Hid (line[k] ≠ 59) := fun h => absurd (H47.out.symm.trans h) (by decide)
                  have HNW : Hid (¬ (line[k] = 32 ∨ line[k] = 9)) := fun h => h.elim (fun h => absurd (H47.out.symm.trans h) (by decide)) (fun h => absurd (H47.out.symm.trans h) (by decide))
                  have HNQ : Hid (¬ (line[k] = 39 ∨ line[k] = 34 ∨ line[k] = 96)) := by
                    intro h
                    rw [H47.out] at h
                    exact absurd h (by decide)
                  have t59 : ((line[k].toNat : Int) == 59) = false := b_no H59.out
                  have t32 : ((line[k].toNat : Int) == 32) = false := b_no (fun h => HNW.out (.inl h))
                  have t9 : ((line[k].toNat : Int) == 9) = false := b_no (fun h => HNW.out (.inr h))
                  have c6 := fun w => isq6 line[k] w
                  rw [show isQ line[k] = false by rw [H47.out]; rfl] at c6
                  clear H47
                  by_cases hs0 : sn = 0
                  · have hsn : Hid (sn = 0) := hs0
                    clear hs0
                    as_aux_lemma =>
                      have HG2 : Hid (Goes n ⟨0, q, op, [] ++ [line[k]], n, out⟩ (line.data.toList.drop (k + 1)) fin) := by
                        have := goes_at hlt HG.out (st_Dn n q op bs sn out _ _ HNK.out HNS.out H59.out HNW.out HNQ.out)
                        rw [bb, bn, if_pos hsn.out, if_pos hsn.out] at this
                        exact this
                      clear HG HNK HNS HNW H59 HNQ
                      have tsn : (sn == 0) = true := beq_iff_eq.2 hsn.out
                      clear hsn
                      have hcut : wr.ownsRow w.heap.size 5 1 (.slice a 0 c) 0 (Lib.byteCells []) := Buf.cut hB
                      go_wp2_with fail
                      refine c15.mono ?_
                      rintro e _ ⟨rfl, rfl⟩
                      go_wp2_with fail
                      refine (c6 _).mono ?_
                      rintro e1 _ ⟨rfl, rfl⟩
                      go_wp2_with (at_builtin; refine wpList_append_lies _ rfl _ _ 35 rfl w.heap.size 5 i0 (.int .u8 0) 1 1 Try.underlying35 hi hz0 hz1 hz2 rfl (by decide) (.slice a 0 c) 0 (Lib.byteCells []) rfl (hcut.alloc _) ⟨wr.heap.size, 0, none⟩ 1 1 [.int .u8 (line[k].toNat : Int)] rfl rfl (World.news_of_block (heap_alloc_new wr _)) (by simp [Value.oneCell']) (by decide) (by unfold maxLen; omega) (by omega) (by simp; omega) _ rfl ?_; intro g' cp' w2 hown2 hgrow2 h5 h6; clear h5 h6)
                      have hB2 : Buf w2 w.heap.size (.slice (some ⟨g', 0, none⟩) (0 + 1) cp') ([] ++ [line[k]]) := Buf.byte_add (bs := []) hown2
                      have hbel2 : Below w.heap.size w w2 := (hbel.alloc (by omega) _).grown hgrow2 (by simp; omega) (fun k hk => (hcut.lt k hk).1)
                      have hSt2 : Stmts w2 w.heap.size u20 out := ⟨own_grown (hSt.1.alloc _) hgrow2 (hcut.alloc _) (by decide), hSt.2⟩
                      go_roundw
                      case rel => exact ⟨k + 1, 0, q, op, n, _, _, by omega, by go_num, rfl, rfl, rfl, rfl, HG2, hSt2, hB2, hbel2, by simp; omega, fun _ => rfl, by omega⟩
                      case measure => simp [intOf]; omega
                  · have hsn : Hid (sn ≠ 0) := hs0
                    clear hs0
                    as_aux_lemma =>
                      have HG2 : Hid (Goes n ⟨0, q, op, bs ++ [line[k]], sn, out⟩ (line.data.toList.drop (k + 1)) fin) := by
                        have := goes_at hlt HG.out (st_Dn n q op bs sn out _ _ HNK.out HNS.out H59.out HNW.out HNQ.out)
                        rw [bb, bn, if_neg hsn.out, if_neg hsn.out] at this
                        exact this
                      clear HG HNK HNS HNW H59 HNQ
                      have tsn : (sn == 0) = false := beq_eq_false_iff_ne.2 hsn.out
                      clear hsn
                      go_wp2_with fail
                      refine c15.mono ?_
                      rintro e _ ⟨rfl, rfl⟩
                      go_wp2_with fail
                      refine (c6 _).mono ?_
                      rintro e1 _ ⟨rfl, rfl⟩
                      go_wp2_with (at_builtin; refine wpList_append_lies _ rfl _ _ 35 rfl w.heap.size 5 i0 (.int .u8 0) 1 1 Try.underlying35 hi hz0 hz1 hz2 rfl (by decide) (.slice a bs.length c) bs.length (Lib.byteCells bs) rfl (hown.alloc _) ⟨wr.heap.size, 0, none⟩ 1 1 [.int .u8 (line[k].toNat : Int)] rfl rfl (World.news_of_block (heap_alloc_new wr _)) (by simp [Value.oneCell']) (by decide) (by unfold maxLen; omega) (by omega) (by simp; omega) _ rfl ?_; intro g' cp' w2 hown2 hgrow2 h5 h6; clear h5 h6)
                      have hB2 : Buf w2 w.heap.size (.slice (some ⟨g', 0, none⟩) (bs.length + 1) cp') (bs ++ [line[k]]) := Buf.byte_add (bs := bs) hown2
                      have hbel2 : Below w.heap.size w w2 := (hbel.alloc (by omega) _).grown hgrow2 (by simp; omega) (fun k hk => (hown.lt k hk).1)
                      have hSt2 : Stmts w2 w.heap.size u20 out := ⟨own_grown (hSt.1.alloc _) hgrow2 (hown.alloc _) (by decide), hSt.2⟩
                      go_roundw
                      case rel => exact ⟨k + 1, 0, q, op, sn, _, _, by omega, by go_num, rfl, rfl, rfl, rfl, HG2, hSt2, hB2, hbel2, by simp; omega, fun _ => rfl, by omega⟩
                      case measure => simp [intOf]; omega
              · have hk1d : decide ((k : Int) + 1 < (line.size : Int)) = false := by simp; omega
                have HNS : Hid (¬ (line[k] = 47 ∧ (line.data.toList.drop (k + 1)).head? = some 42)) := fun h => by have h2 := h.2; rw [drop_end hk1] at h2; cases h2
                have H59 : Hid (line[k] ≠ 59) := fun h => absurd (H47.out.symm.trans h) (by decide)
                have HNW : Hid (¬ (line[k] = 32 ∨ line[k] = 9)) := fun h => h.elim (fun h => absurd (H47.out.symm.trans h) (by decide)) (fun h => absurd (H47.out.symm.trans h) (by decide))
                have HNQ : Hid (¬ (line[k] = 39 ∨ line[k] = 34 ∨ line[k] = 96)) := by
                  intro h
                  rw [H47.out] at h
                  exact absurd h (by decide)
                have t59 : ((line[k].toNat : Int) == 59) = false := b_no H59.out
                have t32 : ((line[k].toNat : Int) == 32) = false := b_no (fun h => HNW.out (.inl h))
                have t9 : ((line[k].toNat : Int) == 9) = false := b_no (fun h => HNW.out (.inr h))
                have c6 := fun w => isq6 line[k] w
                rw [show isQ line[k] = false by rw [H47.out]; rfl] at c6
                clear H47
                by_cases hs0 : sn = 0
                · have hsn : Hid (sn = 0) := hs0
                  clear hs0
                  as_aux_lemma =>
                    have HG2 : Hid (Goes n ⟨0, q, op, [] ++ [line[k]], n, out⟩ (line.data.toList.drop (k + 1)) fin) := by
                      have := goes_at hlt HG.out (st_Dn n q op bs sn out _ _ HNK.out HNS.out H59.out HNW.out HNQ.out)
                      rw [bb, bn, if_pos hsn.out, if_pos hsn.out] at this
                      exact this
                    clear HG HNK HNS HNW H59 HNQ
                    have tsn : (sn == 0) = true := beq_iff_eq.2 hsn.out
                    clear hsn
                    have hcut : wr.ownsRow w.heap.size 5 1 (.slice a 0 c) 0 (Lib.byteCells []) := Buf.cut hB
                    go_wp2_with fail
                    refine c15.mono ?_
                    rintro e _ ⟨rfl, rfl⟩
                    go_wp2_with fail
                    refine (c6 _).mono ?_
                    rintro e1 _ ⟨rfl, rfl⟩
                    go_wp2_with (at_builtin; refine wpList_append_lies _ rfl _ _ 35 rfl w.heap.size 5 i0 (.int .u8 0) 1 1 Try.underlying35 hi hz0 hz1 hz2 rfl (by decide) (.slice a 0 c) 0 (Lib.byteCells []) rfl (hcut.alloc _) ⟨wr.heap.size, 0, none⟩ 1 1 [.int .u8 (line[k].toNat : Int)] rfl rfl (World.news_of_block (heap_alloc_new wr _)) (by simp [Value.oneCell']) (by decide) (by unfold maxLen; omega) (by omega) (by simp; omega) _ rfl ?_; intro g' cp' w2 hown2 hgrow2 h5 h6; clear h5 h6)
                    have hB2 : Buf w2 w.heap.size (.slice (some ⟨g', 0, none⟩) (0 + 1) cp') ([] ++ [line[k]]) := Buf.byte_add (bs := []) hown2
                    have hbel2 : Below w.heap.size w w2 := (hbel.alloc (by omega) _).grown hgrow2 (by simp; omega) (fun k hk => (hcut.lt k hk).1)
                    have hSt2 : Stmts w2 w.heap.size u20 out := ⟨own_grown (hSt.1.alloc _) hgrow2 (hcut.alloc _) (by decide), hSt.2⟩
                    go_roundw
                    case rel => exact ⟨k + 1, 0, q, op, n, _, _, by omega, by go_num, rfl, rfl, rfl, rfl, HG2, hSt2, hB2, hbel2, by simp; omega, fun _ => rfl, by omega⟩
                    case measure => simp [intOf]; omega
                · have hsn : Hid (sn ≠ 0) := hs0
                  clear hs0
                  as_aux_lemma =>
                    have HG2 : Hid (Goes n ⟨0, q, op, bs ++ [line[k]], sn, out⟩ (line.data.toList.drop (k + 1)) fin) := by
                      have := goes_at hlt HG.out (st_Dn n q op bs sn out _ _ HNK.out HNS.out H59.out HNW.out HNQ.out)
                      rw [bb, bn, if_neg hsn.out, if_neg hsn.out] at this
                      exact this
                    clear HG HNK HNS HNW H59 HNQ
                    have tsn : (sn == 0) = false := beq_eq_false_iff_ne.2 hsn.out
                    clear hsn
                    go_wp2_with fail
                    refine c15.mono ?_
                    rintro e _ ⟨rfl, rfl⟩
                    go_wp2_with fail
                    refine (c6 _).mono ?_
                    rintro e1 _ ⟨rfl, rfl⟩
                    go_wp2_with (at_builtin; refine wpList_append_lies _ rfl _ _ 35 rfl w.heap.size 5 i0 (.int .u8 0) 1 1 Try.underlying35 hi hz0 hz1 hz2 rfl (by decide) (.slice a bs.length c) bs.length (Lib.byteCells bs) rfl (hown.alloc _) ⟨wr.heap.size, 0, none⟩ 1 1 [.int .u8 (line[k].toNat : Int)] rfl rfl (World.news_of_block (heap_alloc_new wr _)) (by simp [Value.oneCell']) (by decide) (by unfold maxLen; omega) (by omega) (by simp; omega) _ rfl ?_; intro g' cp' w2 hown2 hgrow2 h5 h6; clear h5 h6)
                    have hB2 : Buf w2 w.heap.size (.slice (some ⟨g', 0, none⟩) (bs.length + 1) cp') (bs ++ [line[k]]) := Buf.byte_add (bs := bs) hown2
                    have hbel2 : Below w.heap.size w w2 := (hbel.alloc (by omega) _).grown hgrow2 (by simp; omega) (fun k hk => (hown.lt k hk).1)
                    have hSt2 : Stmts w2 w.heap.size u20 out := ⟨own_grown (hSt.1.alloc _) hgrow2 (hown.alloc _) (by decide), hSt.2⟩
                    go_roundw
                    case rel => exact ⟨k + 1, 0, q, op, sn, _, _, by omega, by go_num, rfl, rfl, rfl, rfl, HG2, hSt2, hB2, hbel2, by simp; omega, fun _ => rfl, by omega⟩
                    case measure => simp [intOf]; omega
            · have t47 : ((line[k].toNat : Int) == 47) = false := b_no h47
              have HNS : Hid (¬ (line[k] = 47 ∧ (line.data.toList.drop (k + 1)).head? = some 42)) := fun h => h47 h.1
              clear h47
              by_cases h59 : line[k] = 59
              · have t59 : ((line[k].toNat : Int) == 59) = true := b_yes h59
                have H59 : Hid (line[k] = 59) := h59
                clear h59 HNK HNS
                by_cases hs0 : sn = 0
                · have hsn : Hid (sn = 0) := hs0
                  clear hs0
                  as_aux_lemma =>
                    have HG2 : Hid (Goes n ⟨0, q, op, [], 0, out⟩ (line.data.toList.drop (k + 1)) fin) := goes_at hlt HG.out (st_M2 n q op bs sn out _ _ H59.out hsn.out)
                    clear HG
                    have tsn : (sn != 0) = false := by rw [hsn.out]; rfl
                    clear hsn
                    have hcut : Buf wr w.heap.size (.slice a 0 c) [] := Buf.cut hB
                    clear H59
                    go_wp2_with fail
                    refine c15.mono ?_
                    rintro e _ ⟨rfl, rfl⟩
                    go_wp2
                    go_roundw
                    case rel => exact ⟨k + 1, 0, q, op, 0, [], _, by omega, by go_num, rfl, rfl, rfl, rfl, HG2, hSt, hcut, hbel, by simp; omega, fun _ => rfl, by omega⟩
                    case measure => simp [intOf]; omega
                · have hsn : Hid (sn ≠ 0) := hs0
                  clear hs0
                  as_aux_lemma =>
                    have HG2 : Hid (Goes n ⟨0, q, op, [], 0, out ++ [(sn, bs ++ [line[k]])]⟩ (line.data.toList.drop (k + 1)) fin) := goes_at hlt HG.out (st_M1 n q op bs sn out _ _ H59.out hsn.out)
                    clear HG
                    have tsn : (sn != 0) = true := bne_iff_ne.2 hsn.out
                    clear hsn
                    have hcut : Buf wr w.heap.size (.slice a 0 c) [] := Buf.cut hB
                    rw [H59.out] at HG2
                    clear H59
                    obtain ⟨i34, hi34, hz340, hz341, hz342⟩ := info_parts Try.info34
                    have hcv := hB.str wr (fun _ => rfl)
                    have hbs3 : (⟨bs.toArray⟩ : ByteArray).size = bs.length := by rfl
                    obtain ⟨TX, hTX⟩ : ∃ TX : ByteArray, TX = ⟨bs.toArray⟩ := ⟨_, rfl⟩
                    rw [← hTX] at hcv hbs3
                    have HTX : Hid (TX = ⟨bs.toArray⟩) := hTX
                    clear hTX
                    go_wp2_with fail
                    refine c15.mono ?_
                    rintro e _ ⟨rfl, rfl⟩
                    go_wp2_with (at_builtin; refine wpList_append_lies _ rfl _ _ 24 rfl w.heap.size 34 i34 _ 2 24 Try.underlying24 hi34 hz340 hz341 hz342 rfl (by decide) u20 out.length (stCells out) rfl (hSt.1.alloc _) ⟨wr.heap.size, 0, none⟩ 1 1 [.int .i64 sn, .string (TX ++ ⟨#[59]⟩)] rfl rfl (World.news_of_block (heap_alloc_new wr _)) (by simp [Value.oneCell']) (by decide) (by unfold maxLen; omega) (by omega) (by simp; omega) _ rfl ?_; intro g' cp' w2 hown2 hgrow2 h5 h6; clear h5 h6)
                    have hSt2 : Stmts w2 w.heap.size (.slice (some ⟨g', 0, none⟩) (out.length + 1) cp') (out ++ [(sn, bs ++ [59])]) := by
                      refine ⟨?_, fun h => by simp at h⟩
                      have e1 : (out ++ [(sn, bs ++ [59])]).length = out.length + 1 := by simp
                      have e2 : stCells (out ++ [(sn, bs ++ [59])]) = stCells out ++ [.int .i64 sn, .string (TX ++ ⟨#[59]⟩)] := by
                        have e3 : (⟨(bs ++ [59]).toArray⟩ : ByteArray) = TX ++ ⟨#[59]⟩ := by rw [HTX.out]; apply ByteArray.ext; simp
                        rw [← e3]; simp [stCells]
                      rw [e1, e2]; exact hown2
                    have hbel2 : Below w.heap.size w w2 := (hbel.alloc (by omega) _).grown hgrow2 (by simp; omega) (fun k hk => (hSt.1.lt k hk).1)
                    have hB2 : Buf w2 w.heap.size (.slice a 0 c) [] := own_grown (hcut.alloc _) hgrow2 (hSt.1.alloc _) (by decide)
                    go_roundw
                    case rel => exact ⟨k + 1, 0, q, op, 0, [], _, by omega, by go_num, rfl, rfl, rfl, rfl, HG2, hSt2, hB2, hbel2, by simp; omega, fun _ => rfl, by simp; omega⟩
                    case measure => simp [intOf]; omega
              · have t59 : ((line[k].toNat : Int) == 59) = false := b_no h59
                have H59 : Hid (line[k] ≠ 59) := h59
                clear h59
                by_cases h32 : line[k] = 32
                · have HW : Hid (line[k] = 32) := h32
                  clear h32 HNK HNS H59
                  as_aux_lemma =>
                    have HG2 : Hid (Goes n ⟨0, q, op, bs ++ [line[k]], sn, out⟩ (line.data.toList.drop (k + 1)) fin) := goes_at hlt HG.out (st_W n q op bs sn out _ _ (.inl HW.out))
                    clear HG
                    have t32 : ((line[k].toNat : Int) == 32) = true := b_yes HW.out
                    clear HW
                    go_wp2_with fail
                    refine c15.mono ?_
                    rintro e _ ⟨rfl, rfl⟩
                    go_wp2_with (at_builtin; refine wpList_append_lies _ rfl _ _ 35 rfl w.heap.size 5 i0 (.int .u8 0) 1 1 Try.underlying35 hi hz0 hz1 hz2 rfl (by decide) (.slice a bs.length c) bs.length (Lib.byteCells bs) rfl (hown.alloc _) ⟨wr.heap.size, 0, none⟩ 1 1 [.int .u8 (line[k].toNat : Int)] rfl rfl (World.news_of_block (heap_alloc_new wr _)) (by simp [Value.oneCell']) (by decide) (by unfold maxLen; omega) (by omega) (by simp; omega) _ rfl ?_; intro g' cp' w2 hown2 hgrow2 h5 h6; clear h5 h6)
                    have hB2 : Buf w2 w.heap.size (.slice (some ⟨g', 0, none⟩) (bs.length + 1) cp') (bs ++ [line[k]]) := Buf.byte_add (bs := bs) hown2
                    have hbel2 : Below w.heap.size w w2 := (hbel.alloc (by omega) _).grown hgrow2 (by simp; omega) (fun k hk => (hown.lt k hk).1)
                    have hSt2 : Stmts w2 w.heap.size u20 out := ⟨own_grown (hSt.1.alloc _) hgrow2 (hown.alloc _) (by decide), hSt.2⟩
                    go_roundw
                    case rel => exact ⟨k + 1, 0, q, op, sn, _, _, by omega, by go_num, rfl, rfl, rfl, rfl, HG2, hSt2, hB2, hbel2, by simp; omega, fun _ => rfl, by omega⟩
                    case measure => simp [intOf]; omega
                · have H32 : Hid (line[k] ≠ 32) := h32
                  clear h32
                  by_cases h9 : line[k] = 9
                  · have HW : Hid (line[k] = 9) := h9
                    clear h9 HNK HNS H59
                    as_aux_lemma =>
                      have HG2 : Hid (Goes n ⟨0, q, op, bs ++ [line[k]], sn, out⟩ (line.data.toList.drop (k + 1)) fin) := goes_at hlt HG.out (st_W n q op bs sn out _ _ (.inr HW.out))
                      clear HG
                      have t32 : ((line[k].toNat : Int) == 32) = false := b_no H32.out
                      have t9 : ((line[k].toNat : Int) == 9) = true := b_yes HW.out
                      clear HW H32
                      go_wp2_with fail
                      refine c15.mono ?_
                      rintro e _ ⟨rfl, rfl⟩
                      go_wp2_with (at_builtin; refine wpList_append_lies _ rfl _ _ 35 rfl w.heap.size 5 i0 (.int .u8 0) 1 1 Try.underlying35 hi hz0 hz1 hz2 rfl (by decide) (.slice a bs.length c) bs.length (Lib.byteCells bs) rfl (hown.alloc _) ⟨wr.heap.size, 0, none⟩ 1 1 [.int .u8 (line[k].toNat : Int)] rfl rfl (World.news_of_block (heap_alloc_new wr _)) (by simp [Value.oneCell']) (by decide) (by unfold maxLen; omega) (by omega) (by simp; omega) _ rfl ?_; intro g' cp' w2 hown2 hgrow2 h5 h6; clear h5 h6)
                      have hB2 : Buf w2 w.heap.size (.slice (some ⟨g', 0, none⟩) (bs.length + 1) cp') (bs ++ [line[k]]) := Buf.byte_add (bs := bs) hown2
                      have hbel2 : Below w.heap.size w w2 := (hbel.alloc (by omega) _).grown hgrow2 (by simp; omega) (fun k hk => (hown.lt k hk).1)
                      have hSt2 : Stmts w2 w.heap.size u20 out := ⟨own_grown (hSt.1.alloc _) hgrow2 (hown.alloc _) (by decide), hSt.2⟩
                      go_roundw
                      case rel => exact ⟨k + 1, 0, q, op, sn, _, _, by omega, by go_num, rfl, rfl, rfl, rfl, HG2, hSt2, hB2, hbel2, by simp; omega, fun _ => rfl, by omega⟩
                      case measure => simp [intOf]; omega
                  · have HNW : Hid (¬ (line[k] = 32 ∨ line[k] = 9)) := fun h => h.elim H32.out h9
                    have t32 : ((line[k].toNat : Int) == 32) = false := b_no H32.out
                    have t9 : ((line[k].toNat : Int) == 9) = false := b_no h9
                    have c6 := fun w => isq6 line[k] w
                    clear H32 h9
                    cases hiq : isQ line[k] with
                    | true =>
                      have HQ : Hid (isQ line[k] = true) := hiq
                      rw [hiq] at c6
                      clear hiq HNK HNS H59 HNW
                      by_cases hs0 : sn = 0
                      · have hsn : Hid (sn = 0) := hs0
                        clear hs0
                        cases hb : qE line[k] (line.data.toList.drop (k + 1)) with
                        | none =>
                          have HE : Hid (qE line[k] (line.data.toList.drop (k + 1)) = none) := hb
                          clear hb
                          as_aux_lemma =>
                            have hG2 := L_Qn hlt HG.out HQ.out HE.out
                            rw [bb, bn, if_pos hsn.out, if_pos hsn.out] at hG2
                            have HG2 : Hid (Goes n ⟨2, line[k], n, [] ++ (line.extract k line.size).data.toList, n, out⟩ (line.data.toList.drop line.size) fin) := hG2
                            have c14 := fun w => quote14n (i := (k : Int) + 1) w rfl hsz (by omega) (isQ_ne HQ.out) HE.out
                            have hxs : (line.extract k line.size).size = line.size - k := size_at line k
                            clear HE hG2
                            clear HG HQ
                            have tsn : (sn == 0) = true := beq_iff_eq.2 hsn.out
                            clear hsn
                            have hcut : wr.ownsRow w.heap.size 5 1 (.slice a 0 c) 0 (Lib.byteCells []) := Buf.cut hB
                            go_wp2_with fail
                            refine c15.mono ?_
                            rintro e _ ⟨rfl, rfl⟩
                            go_wp2_with fail
                            refine (c6 _).mono ?_
                            rintro e1 _ ⟨rfl, rfl⟩
                            go_wp2_with fail
                            refine (c14 _).mono ?_
                            rintro e1 _ ⟨rfl, rfl⟩
                            go_wp2_with (at_builtin; refine Lib.wpList_append_own_string _ rfl _ _ 35 9 rfl w.heap.size 5 i0 Try.underlying35 Try.underlying9 hi hz0 hz1 hz2 (.slice a 0 c) 0 (Lib.byteCells []) rfl hcut (line.extract k (line.size)) rfl (by rw [hxs]; unfold maxLen; omega) (by rw [hxs]; omega) (by omega) ?_; intro v2 w2 hown2 hgrow2 hnn; clear hnn)
                            have hB2 : Buf w2 w.heap.size v2 ([] ++ (line.extract k (line.size)).data.toList) := Buf.str_add (w := w) (v := v2) (bs := []) hown2
                            have hbel2 : Below w.heap.size w w2 := hbel.grown hgrow2 (by omega) (fun k hk => (hcut.lt k hk).1)
                            have hSt2 : Stmts w2 w.heap.size u20 out := ⟨own_grown hSt.1 hgrow2 hcut (by decide), hSt.2⟩
                            go_roundw
                            case rel => exact ⟨line.size, 2, line[k], n, n, _, _, by omega, by go_num, rfl, rfl, rfl, rfl, HG2, hSt2, hB2, hbel2, by rw [List.length_append, len_list, hxs]; (try simp only [List.length_nil]); omega, fun h => absurd h (by omega), by omega⟩
                            case measure => simp [intOf]; omega
                        | some e0 =>
                          have HE : Hid (∃ e, qE line[k] (line.data.toList.drop (k + 1)) = some e) := ⟨e0, hb⟩
                          clear hb
                          as_aux_lemma =>
                            obtain ⟨e, he⟩ : ∃ e, qE line[k] (line.data.toList.drop (k + 1)) = some e := HE.out
                            obtain ⟨E, hE⟩ : ∃ E, E = k + 1 + e := ⟨_, rfl⟩
                            obtain ⟨hEs, hG2⟩ := L_Qs hlt HG.out HQ.out he hE
                            rw [bb, bn, if_pos hsn.out, if_pos hsn.out] at hG2
                            have HG2 : Hid (Goes n ⟨0, line[k], n, [] ++ (line.extract k (E + 1)).data.toList, n, out⟩ (line.data.toList.drop (E + 1)) fin) := hG2
                            have c14 := fun w => quote14s (i := (k : Int) + 1) w rfl hsz (by omega) (isQ_ne HQ.out) he hE
                            have hkE : k + 1 ≤ E := by omega
                            have hxs : (line.extract k (E + 1)).size = E + 1 - k := by simp; omega
                            clear hG2 he hE HE
                            clear HG HQ
                            have tsn : (sn == 0) = true := beq_iff_eq.2 hsn.out
                            clear hsn
                            have hcut : wr.ownsRow w.heap.size 5 1 (.slice a 0 c) 0 (Lib.byteCells []) := Buf.cut hB
                            go_wp2_with fail
                            refine c15.mono ?_
                            rintro e _ ⟨rfl, rfl⟩
                            go_wp2_with fail
                            refine (c6 _).mono ?_
                            rintro e1 _ ⟨rfl, rfl⟩
                            go_wp2_with fail
                            refine (c14 _).mono ?_
                            rintro e1 _ ⟨rfl, rfl⟩
                            go_wp2_with (at_builtin; refine Lib.wpList_append_own_string _ rfl _ _ 35 9 rfl w.heap.size 5 i0 Try.underlying35 Try.underlying9 hi hz0 hz1 hz2 (.slice a 0 c) 0 (Lib.byteCells []) rfl hcut (line.extract k (E + 1)) rfl (by rw [hxs]; unfold maxLen; omega) (by rw [hxs]; omega) (by omega) ?_; intro v2 w2 hown2 hgrow2 hnn; clear hnn)
                            have hB2 : Buf w2 w.heap.size v2 ([] ++ (line.extract k (E + 1)).data.toList) := Buf.str_add (w := w) (v := v2) (bs := []) hown2
                            have hbel2 : Below w.heap.size w w2 := hbel.grown hgrow2 (by omega) (fun k hk => (hcut.lt k hk).1)
                            have hSt2 : Stmts w2 w.heap.size u20 out := ⟨own_grown hSt.1 hgrow2 hcut (by decide), hSt.2⟩
                            go_roundw
                            case rel => exact ⟨E + 1, 0, line[k], n, n, _, _, by omega, by go_num, rfl, rfl, rfl, rfl, HG2, hSt2, hB2, hbel2, by rw [List.length_append, len_list, hxs]; (try simp only [List.length_nil]); omega, fun _ => rfl, by omega⟩
                            case measure => simp [intOf]; omega
                      · have hsn : Hid (sn ≠ 0) := hs0
                        clear hs0
                        cases hb : qE line[k] (line.data.toList.drop (k + 1)) with
                        | none =>
                          have HE : Hid (qE line[k] (line.data.toList.drop (k + 1)) = none) := hb
                          clear hb
                          as_aux_lemma =>
                            have hG2 := L_Qn hlt HG.out HQ.out HE.out
                            rw [bb, bn, if_neg hsn.out, if_neg hsn.out] at hG2
                            have HG2 : Hid (Goes n ⟨2, line[k], n, bs ++ (line.extract k line.size).data.toList, sn, out⟩ (line.data.toList.drop line.size) fin) := hG2
                            have c14 := fun w => quote14n (i := (k : Int) + 1) w rfl hsz (by omega) (isQ_ne HQ.out) HE.out
                            have hxs : (line.extract k line.size).size = line.size - k := size_at line k
                            clear HE hG2
                            clear HG HQ
                            have tsn : (sn == 0) = false := beq_eq_false_iff_ne.2 hsn.out
                            clear hsn
                            go_wp2_with fail
                            refine c15.mono ?_
                            rintro e _ ⟨rfl, rfl⟩
                            go_wp2_with fail
                            refine (c6 _).mono ?_
                            rintro e1 _ ⟨rfl, rfl⟩
                            go_wp2_with fail
                            refine (c14 _).mono ?_
                            rintro e1 _ ⟨rfl, rfl⟩
                            go_wp2_with (at_builtin; refine Lib.wpList_append_own_string _ rfl _ _ 35 9 rfl w.heap.size 5 i0 Try.underlying35 Try.underlying9 hi hz0 hz1 hz2 (.slice a bs.length c) bs.length (Lib.byteCells bs) rfl hown (line.extract k (line.size)) rfl (by rw [hxs]; unfold maxLen; omega) (by rw [hxs]; omega) (by omega) ?_; intro v2 w2 hown2 hgrow2 hnn; clear hnn)
                            have hB2 : Buf w2 w.heap.size v2 (bs ++ (line.extract k (line.size)).data.toList) := Buf.str_add (w := w) (v := v2) (bs := bs) hown2
                            have hbel2 : Below w.heap.size w w2 := hbel.grown hgrow2 (by omega) (fun k hk => (hown.lt k hk).1)
                            have hSt2 : Stmts w2 w.heap.size u20 out := ⟨own_grown hSt.1 hgrow2 hown (by decide), hSt.2⟩
                            go_roundw
                            case rel => exact ⟨line.size, 2, line[k], n, sn, _, _, by omega, by go_num, rfl, rfl, rfl, rfl, HG2, hSt2, hB2, hbel2, by rw [List.length_append, len_list, hxs]; (try simp only [List.length_nil]); omega, fun h => absurd h (by omega), by omega⟩
                            case measure => simp [intOf]; omega
                        | some e0 =>
                          have HE : Hid (∃ e, qE line[k] (line.data.toList.drop (k + 1)) = some e) := ⟨e0, hb⟩
                          clear hb
                          as_aux_lemma =>
                            obtain ⟨e, he⟩ : ∃ e, qE line[k] (line.data.toList.drop (k + 1)) = some e := HE.out
                            obtain ⟨E, hE⟩ : ∃ E, E = k + 1 + e := ⟨_, rfl⟩
                            obtain ⟨hEs, hG2⟩ := L_Qs hlt HG.out HQ.out he hE
                            rw [bb, bn, if_neg hsn.out, if_neg hsn.out] at hG2
                            have HG2 : Hid (Goes n ⟨0, line[k], n, bs ++ (line.extract k (E + 1)).data.toList, sn, out⟩ (line.data.toList.drop (E + 1)) fin) := hG2
                            have c14 := fun w => quote14s (i := (k : Int) + 1) w rfl hsz (by omega) (isQ_ne HQ.out) he hE
                            have hkE : k + 1 ≤ E := by omega
                            have hxs : (line.extract k (E + 1)).size = E + 1 - k := by simp; omega
                            clear hG2 he hE HE
                            clear HG HQ
                            have tsn : (sn == 0) = false := beq_eq_false_iff_ne.2 hsn.out
                            clear hsn
                            go_wp2_with fail
                            refine c15.mono ?_
                            rintro e _ ⟨rfl, rfl⟩
                            go_wp2_with fail
                            refine (c6 _).mono ?_
                            rintro e1 _ ⟨rfl, rfl⟩
                            go_wp2_with fail
                            refine (c14 _).mono ?_
                            rintro e1 _ ⟨rfl, rfl⟩
                            go_wp2_with (at_builtin; refine Lib.wpList_append_own_string _ rfl _ _ 35 9 rfl w.heap.size 5 i0 Try.underlying35 Try.underlying9 hi hz0 hz1 hz2 (.slice a bs.length c) bs.length (Lib.byteCells bs) rfl hown (line.extract k (E + 1)) rfl (by rw [hxs]; unfold maxLen; omega) (by rw [hxs]; omega) (by omega) ?_; intro v2 w2 hown2 hgrow2 hnn; clear hnn)
                            have hB2 : Buf w2 w.heap.size v2 (bs ++ (line.extract k (E + 1)).data.toList) := Buf.str_add (w := w) (v := v2) (bs := bs) hown2
                            have hbel2 : Below w.heap.size w w2 := hbel.grown hgrow2 (by omega) (fun k hk => (hown.lt k hk).1)
                            have hSt2 : Stmts w2 w.heap.size u20 out := ⟨own_grown hSt.1 hgrow2 hown (by decide), hSt.2⟩
                            go_roundw
                            case rel => exact ⟨E + 1, 0, line[k], n, sn, _, _, by omega, by go_num, rfl, rfl, rfl, rfl, HG2, hSt2, hB2, hbel2, by rw [List.length_append, len_list, hxs]; (try simp only [List.length_nil]); omega, fun _ => rfl, by omega⟩
                            case measure => simp [intOf]; omega
                    | false =>
                      have HNQ : Hid (¬ (line[k] = 39 ∨ line[k] = 34 ∨ line[k] = 96)) := by
                        intro h
                        rcases h with h | h | h <;> (rw [h] at hiq; exact absurd hiq (by decide))
                      rw [hiq] at c6
                      clear hiq
                      by_cases hs0 : sn = 0
                      · have hsn : Hid (sn = 0) := hs0
                        clear hs0
                        as_aux_lemma =>
                          have HG2 : Hid (Goes n ⟨0, q, op, [] ++ [line[k]], n, out⟩ (line.data.toList.drop (k + 1)) fin) := by
                            have := goes_at hlt HG.out (st_Dn n q op bs sn out _ _ HNK.out HNS.out H59.out HNW.out HNQ.out)
                            rw [bb, bn, if_pos hsn.out, if_pos hsn.out] at this
                            exact this
                          clear HG HNK HNS HNW H59 HNQ
                          have tsn : (sn == 0) = true := beq_iff_eq.2 hsn.out
                          clear hsn
                          have hcut : wr.ownsRow w.heap.size 5 1 (.slice a 0 c) 0 (Lib.byteCells []) := Buf.cut hB
                          go_wp2_with fail
                          refine c15.mono ?_
                          rintro e _ ⟨rfl, rfl⟩
                          go_wp2_with fail
                          refine (c6 _).mono ?_
                          rintro e1 _ ⟨rfl, rfl⟩
                          go_wp2_with (at_builtin; refine wpList_append_lies _ rfl _ _ 35 rfl w.heap.size 5 i0 (.int .u8 0) 1 1 Try.underlying35 hi hz0 hz1 hz2 rfl (by decide) (.slice a 0 c) 0 (Lib.byteCells []) rfl (hcut.alloc _) ⟨wr.heap.size, 0, none⟩ 1 1 [.int .u8 (line[k].toNat : Int)] rfl rfl (World.news_of_block (heap_alloc_new wr _)) (by simp [Value.oneCell']) (by decide) (by unfold maxLen; omega) (by omega) (by simp; omega) _ rfl ?_; intro g' cp' w2 hown2 hgrow2 h5 h6; clear h5 h6)
                          have hB2 : Buf w2 w.heap.size (.slice (some ⟨g', 0, none⟩) (0 + 1) cp') ([] ++ [line[k]]) := Buf.byte_add (bs := []) hown2
                          have hbel2 : Below w.heap.size w w2 := (hbel.alloc (by omega) _).grown hgrow2 (by simp; omega) (fun k hk => (hcut.lt k hk).1)
                          have hSt2 : Stmts w2 w.heap.size u20 out := ⟨own_grown (hSt.1.alloc _) hgrow2 (hcut.alloc _) (by decide), hSt.2⟩
                          go_roundw
                          case rel => exact ⟨k + 1, 0, q, op, n, _, _, by omega, by go_num, rfl, rfl, rfl, rfl, HG2, hSt2, hB2, hbel2, by simp; omega, fun _ => rfl, by omega⟩
                          case measure => simp [intOf]; omega
                      · have hsn : Hid (sn ≠ 0) := hs0
                        clear hs0
                        as_aux_lemma =>
                          have HG2 : Hid (Goes n ⟨0, q, op, bs ++ [line[k]], sn, out⟩ (line.data.toList.drop (k + 1)) fin) := by
                            have := goes_at hlt HG.out (st_Dn n q op bs sn out _ _ HNK.out HNS.out H59.out HNW.out HNQ.out)
                            rw [bb, bn, if_neg hsn.out, if_neg hsn.out] at this
                            exact this
                          clear HG HNK HNS HNW H59 HNQ
                          have tsn : (sn == 0) = false := beq_eq_false_iff_ne.2 hsn.out
                          clear hsn
                          go_wp2_with fail
                          refine c15.mono ?_
                          rintro e _ ⟨rfl, rfl⟩
                          go_wp2_with fail
                          refine (c6 _).mono ?_
                          rintro e1 _ ⟨rfl, rfl⟩
                          go_wp2_with (at_builtin; refine wpList_append_lies _ rfl _ _ 35 rfl w.heap.size 5 i0 (.int .u8 0) 1 1 Try.underlying35 hi hz0 hz1 hz2 rfl (by decide) (.slice a bs.length c) bs.length (Lib.byteCells bs) rfl (hown.alloc _) ⟨wr.heap.size, 0, none⟩ 1 1 [.int .u8 (line[k].toNat : Int)] rfl rfl (World.news_of_block (heap_alloc_new wr _)) (by simp [Value.oneCell']) (by decide) (by unfold maxLen; omega) (by omega) (by simp; omega) _ rfl ?_; intro g' cp' w2 hown2 hgrow2 h5 h6; clear h5 h6)
                          have hB2 : Buf w2 w.heap.size (.slice (some ⟨g', 0, none⟩) (bs.length + 1) cp') (bs ++ [line[k]]) := Buf.byte_add (bs := bs) hown2
                          have hbel2 : Below w.heap.size w w2 := (hbel.alloc (by omega) _).grown hgrow2 (by simp; omega) (fun k hk => (hown.lt k hk).1)
                          have hSt2 : Stmts w2 w.heap.size u20 out := ⟨own_grown (hSt.1.alloc _) hgrow2 (hown.alloc _) (by decide), hSt.2⟩
                          go_roundw
                          case rel => exact ⟨k + 1, 0, q, op, sn, _, _, by omega, by go_num, rfl, rfl, rfl, rfl, HG2, hSt2, hB2, hbel2, by simp; omega, fun _ => rfl, by omega⟩
                          case measure => simp [intOf]; omega
      · as_aux_lemma =>
          obtain rfl : k = line.size := by omega
          obtain rfl : fin = ⟨st, q, op, bs, sn, out⟩ := goes_end (by have := HG.out; rw [drop_full] at this; exact this)
          clear HG hst hlt
          go_wp2_with (at_builtin; refine wpList_append_lies _ rfl _ _ 35 rfl w.heap.size 5 i0 (.int .u8 0) 1 1 Try.underlying35 hi hz0 hz1 hz2 rfl (by decide) (.slice a bs.length c) bs.length (Lib.byteCells bs) rfl (hown.alloc _) ⟨wr.heap.size, 0, none⟩ 1 1 [.int .u8 ((10 : UInt8).toNat : Int)] rfl rfl (World.news_of_block (heap_alloc_new wr _)) (by simp [Value.oneCell']) (by decide) (by unfold maxLen; omega) (by omega) (by simp; omega) _ rfl ?_; intro g' cp' w2 hown2 hgrow2 h5 h6; clear h5 h6)
          have hB2 : Buf w2 w.heap.size (.slice (some ⟨g', 0, none⟩) (bs.length + 1) cp') (bs ++ [10]) := Buf.byte_add (bs := bs) hown2
          have hbel2 : Below w.heap.size w w2 := (hbel.alloc (by omega) _).grown hgrow2 (by simp; omega) (fun k hk => (hown.lt k hk).1)
          have hSt2 : Stmts w2 w.heap.size u20 out := ⟨own_grown (hSt.1.alloc _) hgrow2 (hown.alloc _) (by decide), hSt.2⟩
          have hcv : (convert 35 9 (.slice (some ⟨g', 0, none⟩) (bs.length + 1) cp')).run Try.prog w2.drew = .ok (.string ⟨(bs ++ [10]).toArray⟩) w2.drew := by
            have hB3 : Buf w2 w.heap.size (.slice (some ⟨g', 0, none⟩) (bs ++ [10]).length cp') (bs ++ [10]) := by rw [List.length_append]; exact hB2
            have := hB3.str w2.drew (fun _ => rfl)
            rw [List.length_append] at this
            exact this
          obtain ⟨TX, hTX⟩ : ∃ TX : ByteArray, TX = ⟨(bs ++ [10]).toArray⟩ := ⟨_, rfl⟩
          rw [← hTX] at hcv
          have HTX : Hid (TX = ⟨(bs ++ [10]).toArray⟩) := hTX
          clear hTX hown2 hgrow2 hSt hB hown hbel hB2
          go_region
          all_goals
            go_wp2
            refine bodyPost_ret (results_tmp6 rfl _ _ _) rfl ?_
            refine ⟨u20, ?_, hSt2, hbel2.drew⟩
            show _ = Ending.returned (.tuple #[u20, .int .u8 (st : Int), .int .u8 (q.toNat : Int), .int .i64 op, .string ⟨(bs ++ [10]).toArray⟩, .int .i64 sn])
            rw [← HTX.out]
            rfl

end Go.Proofs.Qxb6625814a
