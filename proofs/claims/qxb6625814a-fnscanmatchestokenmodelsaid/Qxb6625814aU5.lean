import Derived.Test.Qxb6625814aU4
namespace Go.Proofs.Qxb6625814a
open Go.RowKit
set_option linter.unusedVariables false

set_option maxRecDepth 100000 in
set_option maxHeartbeats 20000000 in
theorem scan17 (B p : Nat) (s : Sc) (line : ByteArray) (n : Int) (w : World) (hS : Sco w B p s) (ho : s.out = []) (hl : s.bs.length + line.size ≤ 2097152) (hBw : B ≤ w.heap.size) (hst : s.st ≤ 2) :
    Calls Try.prog 17 #[.pointer (some ⟨p, 0, none⟩), .string line, .int .i64 n] w (RetScan w B p (scanF n line.size s line.data.toList)) := by
  obtain ⟨fin, hfin⟩ : ∃ fin, fin = scanF n line.size s line.data.toList := ⟨_, rfl⟩
  have HR : Rel B p line n w fin (.slice none 0 0) (.int .i64 0) w := ⟨0, s, Nat.zero_le _, rfl, by rw [hfin]; exact goes_start n s line.data.toList, hS, by rw [ho]; exact ⟨World.ownsRow_nil _ _ _ _, fun _ => rfl⟩, Below.refl _ _, by omega, by rw [ho]; exact Nat.le_refl _, hst⟩
  have hsz : line.size ≤ 2097152 := by omega
  rw [← hfin]
  clear hfin hS ho hl hst
  go_enter Try.func17, Try.ntmps17
  go_wp2_with fail
  go_loopw [7, 8, 9] (fun v i _ wr => Rel B p line n w fin v i wr) (fun _ i _ _ => line.size + 1 - (intOf i).toNat)
  case atStart => exact HR
  case round =>
    clear HR s
    obtain ⟨k, s, hk, rfl, HG, HS, hSt, hbel, hlen, hol, hst⟩ := hrel
    obtain ⟨st, q, op, bs, sn, out⟩ := s
    have HG' : Hid (Goes n ⟨st, q, op, bs, sn, out⟩ (line.data.toList.drop k) fin) := HG
    have hS : ScIs wr B p st q op bs sn := HS
    dsimp only at hlen hol hst hSt
    clear HG HS
    obtain ⟨c0, c1, c2, c5, ff, lp⟩ := sc_cells hS
    obtain ⟨pcs, hpb⟩ := sc_blk hS
    have HPB : Hid (wr.heap[p]? = some (.cells pcs 44 (0, 0))) := hpb
    have lw := hbel.size
    have hB := hS.1
    have lbb := bb_le bs sn
    clear hpb
    by_cases hlt : k < line.size
    · by_cases h1 : st = 1
      · subst h1
        by_cases h42 : line[k] = 42
        · have t42 : ((line[k].toNat : Int) == 42) = true := b_yes h42
          have H42 : Hid (line[k] = 42) := h42
          clear h42
          by_cases hlt2 : k + 1 < line.size
          · by_cases h47 : line[k + 1] = 47
            · have t47 : ((line[k + 1].toNat : Int) == 47) = true := b_yes h47
              have H47 : Hid (line[k + 1] = 47) := h47
              clear h47
              as_aux_lemma =>
                have hs0 := sc_st hS 0
                have ho0 : Oth p wr (wr.setCell ⟨p, 0, none⟩ (.int .u8 ((0 : Nat) : Int))) := (Oth.refl p wr).setCell _
                have hb0 : Below B w (wr.setCell ⟨p, 0, none⟩ (.int .u8 ((0 : Nat) : Int))) := hbel.setCell (p := ⟨p, 0, none⟩) hB _
                go_wp2_with fail
                refine (wbyte20 B p 0 q op (bs) sn line[k] _ hs0 (by omega) (by first | omega | (simp [World.setCell]; omega))).mono ?_
                rintro e w1 ⟨rfl, hs1, hb1, ho1⟩
                have l1 : B ≤ w1.heap.size := Nat.le_trans (by first | omega | (simp [World.setCell]; omega)) hb1.size
                go_wp2_with fail
                refine (wbyte20 B p 0 q op (bs ++ [line[k]]) sn line[k + 1] _ hs1 (by simp; omega) (by omega)).mono ?_
                rintro e w2 ⟨rfl, hs2, hb2, ho2⟩
                go_wp2
                go_roundw
                case rel => exact rel_next (k' := k + 2) (s' := ⟨0, q, op, bs ++ [line[k]] ++ [line[k + 1]], sn, out⟩) hlt HG'.out (by rw [drop_at hlt2]; exact st_B1 n q op bs sn out _ _ _ H42.out H47.out) hs2 (hSt.keep ((ho0.trans ho1).trans ho2) HPB.out) ((hb0.trans hb1).trans hb2) (by omega) (by go_num) (by simp; omega) (by simp; omega) (show (0 : Nat) ≤ 2 by decide)
                case measure => simp [intOf]; omega
            · have t47 : ((line[k + 1].toNat : Int) == 47) = false := b_no h47
              have H47 : Hid (line[k + 1] ≠ 47) := h47
              clear h47
              as_aux_lemma =>
                go_wp2_with fail
                refine (wbyte20 B p 1 q op (bs) sn line[k] _ hS (by omega) (by first | omega | (simp [World.setCell]; omega))).mono ?_
                rintro e w1 ⟨rfl, hs1, hb1, ho1⟩
                go_wp2
                go_roundw
                case rel => exact rel_next (k' := k + 1) (s' := ⟨1, q, op, bs ++ [line[k]], sn, out⟩) hlt HG'.out (st_B2 n q op bs sn out _ _ (fun h => H47.out (by have h2 := h.2; rw [drop_at hlt2] at h2; simpa using h2))) hs1 (hSt.keep ((Oth.refl p wr).trans ho1) HPB.out) (hbel.trans hb1) (by omega) (by go_num) (by simp; omega) (by simp; omega) (show (1 : Nat) ≤ 2 by decide)
                case measure => simp [intOf]; omega
          · as_aux_lemma =>
              have hlt2d : decide ((k : Int) + 1 < (line.size : Int)) = false := by simp; omega
              go_wp2_with fail
              refine (wbyte20 B p 1 q op (bs) sn line[k] _ hS (by omega) (by first | omega | (simp [World.setCell]; omega))).mono ?_
              rintro e w1 ⟨rfl, hs1, hb1, ho1⟩
              go_wp2
              go_roundw
              case rel => exact rel_next (k' := k + 1) (s' := ⟨1, q, op, bs ++ [line[k]], sn, out⟩) hlt HG'.out (st_B2 n q op bs sn out _ _ (fun h => by have h2 := h.2; rw [drop_end hlt2] at h2; cases h2)) hs1 (hSt.keep ((Oth.refl p wr).trans ho1) HPB.out) (hbel.trans hb1) (by omega) (by go_num) (by simp; omega) (by simp; omega) (show (1 : Nat) ≤ 2 by decide)
              case measure => simp [intOf]; omega
        · have t42 : ((line[k].toNat : Int) == 42) = false := b_no h42
          have H42 : Hid (line[k] ≠ 42) := h42
          clear h42
          as_aux_lemma =>
            go_wp2_with fail
            refine (wbyte20 B p 1 q op (bs) sn line[k] _ hS (by omega) (by first | omega | (simp [World.setCell]; omega))).mono ?_
            rintro e w1 ⟨rfl, hs1, hb1, ho1⟩
            go_wp2
            go_roundw
            case rel => exact rel_next (k' := k + 1) (s' := ⟨1, q, op, bs ++ [line[k]], sn, out⟩) hlt HG'.out (st_B2 n q op bs sn out _ _ (fun h => H42.out h.1)) hs1 (hSt.keep ((Oth.refl p wr).trans ho1) HPB.out) (hbel.trans hb1) (by omega) (by go_num) (by simp; omega) (by simp; omega) (show (1 : Nat) ≤ 2 by decide)
            case measure => simp [intOf]; omega
      · by_cases h2 : st = 2
        · subst h2
          by_cases h92 : line[k] = 92
          · have t92 : ((line[k].toNat : Int) == 92) = true := b_yes h92
            have H92 : Hid (line[k] = 92) := h92
            clear h92
            by_cases h96 : q = 96
            · have t96 : ((q.toNat : Int) != 96) = false := n_no h96
              have HN96 : Hid (q = 96) := h96
              clear h96
              by_cases hq : line[k] = q
              · as_aux_lemma =>
                  have tq : ((line[k].toNat : Int) == (q.toNat : Int)) = true := b_yes hq
                  have HQ : Hid (line[k] = q) := hq
                  clear hq
                  have hs0 := sc_st hS 0
                  have ho0 : Oth p wr (wr.setCell ⟨p, 0, none⟩ (.int .u8 ((0 : Nat) : Int))) := (Oth.refl p wr).setCell _
                  have hb0 : Below B w (wr.setCell ⟨p, 0, none⟩ (.int .u8 ((0 : Nat) : Int))) := hbel.setCell (p := ⟨p, 0, none⟩) hB _
                  go_wp2_with fail
                  refine (wbyte20 B p 0 q op (bs) sn line[k] _ hs0 (by omega) (by first | omega | (simp [World.setCell]; omega))).mono ?_
                  rintro e w1 ⟨rfl, hs1, hb1, ho1⟩
                  go_wp2
                  go_roundw
                  case rel => exact rel_next (k' := k + 1) (s' := ⟨0, q, op, bs ++ [line[k]], sn, out⟩) hlt HG'.out (st_Q2 n q op bs sn out _ _ (fun h => h.2.1 HN96.out) HQ.out) hs1 (hSt.keep (ho0.trans ho1) HPB.out) (hb0.trans hb1) (by omega) (by go_num) (by simp; omega) (by simp; omega) (show (0 : Nat) ≤ 2 by decide)
                  case measure => simp [intOf]; omega
              · as_aux_lemma =>
                  have tq : ((line[k].toNat : Int) == (q.toNat : Int)) = false := b_no hq
                  have HQ : Hid (line[k] ≠ q) := hq
                  clear hq
                  go_wp2_with fail
                  refine (wbyte20 B p 2 q op (bs) sn line[k] _ hS (by omega) (by first | omega | (simp [World.setCell]; omega))).mono ?_
                  rintro e w1 ⟨rfl, hs1, hb1, ho1⟩
                  go_wp2
                  go_roundw
                  case rel => exact rel_next (k' := k + 1) (s' := ⟨2, q, op, bs ++ [line[k]], sn, out⟩) hlt HG'.out (st_Q3 n q op bs sn out _ _ (fun h => h.2.1 HN96.out) HQ.out) hs1 (hSt.keep ((Oth.refl p wr).trans ho1) HPB.out) (hbel.trans hb1) (by omega) (by go_num) (by simp; omega) (by simp; omega) (show (2 : Nat) ≤ 2 by decide)
                  case measure => simp [intOf]; omega
            · have t96 : ((q.toNat : Int) != 96) = true := n_yes h96
              have HN96 : Hid (q ≠ 96) := h96
              clear h96
              by_cases hlt2 : k + 1 < line.size
              · as_aux_lemma =>
                  go_wp2_with fail
                  refine (wbyte20 B p 2 q op (bs) sn line[k] _ hS (by omega) (by first | omega | (simp [World.setCell]; omega))).mono ?_
                  rintro e w1 ⟨rfl, hs1, hb1, ho1⟩
                  have l1 : B ≤ w1.heap.size := Nat.le_trans (by first | omega | (simp [World.setCell]; omega)) hb1.size
                  go_wp2_with fail
                  refine (wbyte20 B p 2 q op (bs ++ [line[k]]) sn line[k + 1] _ hs1 (by simp; omega) (by omega)).mono ?_
                  rintro e w2 ⟨rfl, hs2, hb2, ho2⟩
                  go_wp2
                  go_roundw
                  case rel => exact rel_next (k' := k + 2) (s' := ⟨2, q, op, bs ++ [line[k]] ++ [line[k + 1]], sn, out⟩) hlt HG'.out (by rw [drop_at hlt2]; exact st_Q1 n q op bs sn out _ _ _ H92.out HN96.out) hs2 (hSt.keep (((Oth.refl p wr).trans ho1).trans ho2) HPB.out) ((hbel.trans hb1).trans hb2) (by omega) (by go_num) (by simp; omega) (by simp; omega) (show (2 : Nat) ≤ 2 by decide)
                  case measure => simp [intOf]; omega
              · have hlt2d : decide ((k : Int) + 1 < (line.size : Int)) = false := by simp; omega
                by_cases hq : line[k] = q
                · as_aux_lemma =>
                    have tq : ((line[k].toNat : Int) == (q.toNat : Int)) = true := b_yes hq
                    have HQ : Hid (line[k] = q) := hq
                    clear hq
                    have hs0 := sc_st hS 0
                    have ho0 : Oth p wr (wr.setCell ⟨p, 0, none⟩ (.int .u8 ((0 : Nat) : Int))) := (Oth.refl p wr).setCell _
                    have hb0 : Below B w (wr.setCell ⟨p, 0, none⟩ (.int .u8 ((0 : Nat) : Int))) := hbel.setCell (p := ⟨p, 0, none⟩) hB _
                    go_wp2_with fail
                    refine (wbyte20 B p 0 q op (bs) sn line[k] _ hs0 (by omega) (by first | omega | (simp [World.setCell]; omega))).mono ?_
                    rintro e w1 ⟨rfl, hs1, hb1, ho1⟩
                    go_wp2
                    go_roundw
                    case rel => exact rel_next (k' := k + 1) (s' := ⟨0, q, op, bs ++ [line[k]], sn, out⟩) hlt HG'.out (st_Q2 n q op bs sn out _ _ (fun h => h.2.2 (drop_end hlt2)) HQ.out) hs1 (hSt.keep (ho0.trans ho1) HPB.out) (hb0.trans hb1) (by omega) (by go_num) (by simp; omega) (by simp; omega) (show (0 : Nat) ≤ 2 by decide)
                    case measure => simp [intOf]; omega
                · as_aux_lemma =>
                    have tq : ((line[k].toNat : Int) == (q.toNat : Int)) = false := b_no hq
                    have HQ : Hid (line[k] ≠ q) := hq
                    clear hq
                    go_wp2_with fail
                    refine (wbyte20 B p 2 q op (bs) sn line[k] _ hS (by omega) (by first | omega | (simp [World.setCell]; omega))).mono ?_
                    rintro e w1 ⟨rfl, hs1, hb1, ho1⟩
                    go_wp2
                    go_roundw
                    case rel => exact rel_next (k' := k + 1) (s' := ⟨2, q, op, bs ++ [line[k]], sn, out⟩) hlt HG'.out (st_Q3 n q op bs sn out _ _ (fun h => h.2.2 (drop_end hlt2)) HQ.out) hs1 (hSt.keep ((Oth.refl p wr).trans ho1) HPB.out) (hbel.trans hb1) (by omega) (by go_num) (by simp; omega) (by simp; omega) (show (2 : Nat) ≤ 2 by decide)
                    case measure => simp [intOf]; omega
          · have t92 : ((line[k].toNat : Int) == 92) = false := b_no h92
            have H92 : Hid (line[k] ≠ 92) := h92
            clear h92
            by_cases hq : line[k] = q
            · as_aux_lemma =>
                have tq : ((line[k].toNat : Int) == (q.toNat : Int)) = true := b_yes hq
                have HQ : Hid (line[k] = q) := hq
                clear hq
                have hs0 := sc_st hS 0
                have ho0 : Oth p wr (wr.setCell ⟨p, 0, none⟩ (.int .u8 ((0 : Nat) : Int))) := (Oth.refl p wr).setCell _
                have hb0 : Below B w (wr.setCell ⟨p, 0, none⟩ (.int .u8 ((0 : Nat) : Int))) := hbel.setCell (p := ⟨p, 0, none⟩) hB _
                go_wp2_with fail
                refine (wbyte20 B p 0 q op (bs) sn line[k] _ hs0 (by omega) (by first | omega | (simp [World.setCell]; omega))).mono ?_
                rintro e w1 ⟨rfl, hs1, hb1, ho1⟩
                go_wp2
                go_roundw
                case rel => exact rel_next (k' := k + 1) (s' := ⟨0, q, op, bs ++ [line[k]], sn, out⟩) hlt HG'.out (st_Q2 n q op bs sn out _ _ (fun h => H92.out h.1) HQ.out) hs1 (hSt.keep (ho0.trans ho1) HPB.out) (hb0.trans hb1) (by omega) (by go_num) (by simp; omega) (by simp; omega) (show (0 : Nat) ≤ 2 by decide)
                case measure => simp [intOf]; omega
            · as_aux_lemma =>
                have tq : ((line[k].toNat : Int) == (q.toNat : Int)) = false := b_no hq
                have HQ : Hid (line[k] ≠ q) := hq
                clear hq
                go_wp2_with fail
                refine (wbyte20 B p 2 q op (bs) sn line[k] _ hS (by omega) (by first | omega | (simp [World.setCell]; omega))).mono ?_
                rintro e w1 ⟨rfl, hs1, hb1, ho1⟩
                go_wp2
                go_roundw
                case rel => exact rel_next (k' := k + 1) (s' := ⟨2, q, op, bs ++ [line[k]], sn, out⟩) hlt HG'.out (st_Q3 n q op bs sn out _ _ (fun h => H92.out h.1) HQ.out) hs1 (hSt.keep ((Oth.refl p wr).trans ho1) HPB.out) (hbel.trans hb1) (by omega) (by go_num) (by simp; omega) (by simp; omega) (show (2 : Nat) ≤ 2 by decide)
                case measure => simp [intOf]; omega
        · obtain rfl : st = 0 := by omega
          clear h1 h2 hst
          by_cases h35 : line[k] = 35
          · have t35 : ((line[k].toNat : Int) == 35) = true := b_yes h35
            have H35 : Hid (line[k] = 35) := h35
            clear h35
            as_aux_lemma =>
              have hSd : ScIs wr.drew B p 0 q op bs sn := hS
              go_wp2_with (go_at_call 21; refine (hp21 _ _ _ (by rw [size_at]; omega) (by decide)).mono ?_; rintro e _ ⟨rfl, rfl⟩)
              go_region_with (go_at_call 16; refine (wstr16 B p 0 q op bs sn (line.extract k line.size) wr.drew hSd (by rw [size_at]; omega) (by exact Nat.le_trans hBw lw)).mono ?_; rintro e w1 ⟨rfl, hs1, hb1, ho1⟩)
              rw [Lib.extract_to_end, drop_at hlt] at hs1
              go_wp2
              go_roundw
              case rel => exact rel_next (k' := line.size + 1) (s' := ⟨0, q, op, bs ++ line[k] :: line.data.toList.drop (k + 1), sn, out⟩) hlt HG'.out (by rw [drop_end (k := line.size + 1) (by omega)]; exact st_K n q op bs sn out _ _ (.inl H35.out)) hs1 (hSt.keep (((Oth.refl p wr).drew).trans ho1) HPB.out) ((hbel.drew).trans hb1) (by omega) (by go_num) (by have e5 : line.data.toList.length = line.size := rfl; simp only [List.length_append, List.length_cons, List.length_drop, e5]; omega) (by simp; omega) (show (0 : Nat) ≤ 2 by decide)
              case measure => simp [intOf]; omega
          · have t35 : ((line[k].toNat : Int) == 35) = false := b_no h35
            have H35 : Hid (line[k] ≠ 35) := h35
            clear h35
            by_cases h45 : line[k] = 45
            · have t45 : ((line[k].toNat : Int) == 45) = true := b_yes h45
              have H45 : Hid (line[k] = 45) := h45
              clear h45
              by_cases hlt2 : k + 1 < line.size
              · by_cases h45b : line[k + 1] = 45
                · have H45b : Hid (line[k + 1] = 45) := h45b
                  clear h45b
                  by_cases hlt3 : k + 2 < line.size
                  · by_cases hz : line[k + 2] ≤ 32
                    · have HZ : Hid (line[k + 2] ≤ 32) := hz
                      clear hz
                      as_aux_lemma =>
                        have hSd : ScIs wr.drew B p 0 q op bs sn := hS
                        have hpd : hp (line.extract k line.size) ⟨#[45, 45]⟩ = true := by
                          rw [hp_at, drop_at hlt, drop_at hlt2, H45.out, H45b.out]; rfl
                        have te : ((k : Int) + 2 == (line.size : Int)) = false := beq_eq_false_iff_ne.2 (by omega)
                        have tz : (line[k + 2].toNat : Int) ≤ 32 := by have := UInt8.le_iff_toNat_le.1 HZ.out; have e32 : (32 : UInt8).toNat = 32 := rfl; omega
                        go_wp2_with (go_at_call 21; refine (hp21 _ _ _ (by rw [size_at]; omega) (by decide)).mono ?_; rintro e _ ⟨rfl, rfl⟩)
                        go_region_with (go_at_call 16; refine (wstr16 B p 0 q op bs sn (line.extract k line.size) wr.drew hSd (by rw [size_at]; omega) (by exact Nat.le_trans hBw lw)).mono ?_; rintro e w1 ⟨rfl, hs1, hb1, ho1⟩)
                        rw [Lib.extract_to_end, drop_at hlt] at hs1
                        go_wp2
                        go_roundw
                        case rel => exact rel_next (k' := line.size + 1) (s' := ⟨0, q, op, bs ++ line[k] :: line.data.toList.drop (k + 1), sn, out⟩) hlt HG'.out (by rw [drop_end (k := line.size + 1) (by omega)]; exact st_K n q op bs sn out _ _ (.inr ⟨H45.out, by rw [drop_at hlt2, drop_at hlt3, H45b.out]; simp [dashC]; exact HZ.out⟩)) hs1 (hSt.keep (((Oth.refl p wr).drew).trans ho1) HPB.out) ((hbel.drew).trans hb1) (by omega) (by go_num) (by have e5 : line.data.toList.length = line.size := rfl; simp only [List.length_append, List.length_cons, List.length_drop, e5]; omega) (by simp; omega) (show (0 : Nat) ≤ 2 by decide)
                        case measure => simp [intOf]; omega
                    · have HZ : Hid (¬ line[k + 2] ≤ 32) := hz
                      clear hz
                      as_aux_lemma =>
                        have tn47 : ((line[k].toNat : Int) == 47) = false := b_no (c := line[k]) (m := 47) (by rw [H45.out]; decide)
                        have tn59 : ((line[k].toNat : Int) == 59) = false := b_no (c := line[k]) (m := 59) (by rw [H45.out]; decide)
                        have tn32 : ((line[k].toNat : Int) == 32) = false := b_no (c := line[k]) (m := 32) (by rw [H45.out]; decide)
                        have tn9 : ((line[k].toNat : Int) == 9) = false := b_no (c := line[k]) (m := 9) (by rw [H45.out]; decide)
                        have tn39 : ((line[k].toNat : Int) == 39) = false := b_no (c := line[k]) (m := 39) (by rw [H45.out]; decide)
                        have tn34 : ((line[k].toNat : Int) == 34) = false := b_no (c := line[k]) (m := 34) (by rw [H45.out]; decide)
                        have tn96 : ((line[k].toNat : Int) == 96) = false := b_no (c := line[k]) (m := 96) (by rw [H45.out]; decide)
                        have hpd : hp (line.extract k line.size) ⟨#[45, 45]⟩ = true := by
                          rw [hp_at, drop_at hlt, drop_at hlt2, H45.out, H45b.out]; rfl
                        have te : ((k : Int) + 2 == (line.size : Int)) = false := beq_eq_false_iff_ne.2 (by omega)
                        have tz : decide ((line[k + 2].toNat : Int) ≤ 32) = false := by simp only [decide_eq_false_iff_not]; intro hh; exact HZ.out (UInt8.le_iff_toNat_le.2 (by have e32 : (32 : UInt8).toNat = 32 := rfl; omega))
                        go_wp2_with (first | (go_at_call 21; refine (hp21 _ _ _ (by rw [size_at]; omega) (by decide)).mono ?_; rintro e _ ⟨rfl, rfl⟩) | (go_at_call 22; refine (begin22 B p 0 q op bs sn n _ hS).mono ?_; rintro e w0 ⟨rfl, hs0, hb0, ho0⟩))
                        have l0 : B ≤ w0.heap.size := Nat.le_trans (by omega) hb0.size
                        refine (wbyte20 B p 0 q op (bb bs sn) (bn n sn) line[k] w0 hs0 (by omega) (by omega)).mono ?_
                        rintro e w1 ⟨rfl, hs1, hb1, ho1⟩
                        go_wp2
                        go_roundw
                        case rel => exact rel_next (k' := k + 1) (s' := ⟨0, q, op, bb bs sn ++ [line[k]], bn n sn, out⟩) hlt HG'.out (st_Dn n q op bs sn out _ _ (fun h => h.elim (fun h => absurd (H45.out.symm.trans h) (by decide)) (fun h => by have h2 := h.2; rw [drop_at hlt2, drop_at hlt3] at h2; simp [dashC] at h2; exact HZ.out h2.2)) (fun h => absurd (H45.out.symm.trans h.1) (by decide)) (by rw [H45.out]; decide) (by rw [H45.out]; decide) (by rw [H45.out]; decide)) hs1 (hSt.keep (ho0.trans ho1) HPB.out) ((hbel.trans hb0).trans hb1) (by omega) (by go_num) (by simp; omega) (by simp; omega) (show (0 : Nat) ≤ 2 by decide)
                        case measure => simp [intOf]; omega
                  · as_aux_lemma =>
                      have hSd : ScIs wr.drew B p 0 q op bs sn := hS
                      have hpd : hp (line.extract k line.size) ⟨#[45, 45]⟩ = true := by
                        rw [hp_at, drop_at hlt, drop_at hlt2, H45.out, H45b.out]; rfl
                      have te : ((k : Int) + 2 == (line.size : Int)) = true := beq_iff_eq.2 (by omega)
                      go_wp2_with (go_at_call 21; refine (hp21 _ _ _ (by rw [size_at]; omega) (by decide)).mono ?_; rintro e _ ⟨rfl, rfl⟩)
                      go_region_with (go_at_call 16; refine (wstr16 B p 0 q op bs sn (line.extract k line.size) wr.drew hSd (by rw [size_at]; omega) (by exact Nat.le_trans hBw lw)).mono ?_; rintro e w1 ⟨rfl, hs1, hb1, ho1⟩)
                      rw [Lib.extract_to_end, drop_at hlt] at hs1
                      go_wp2
                      go_roundw
                      case rel => exact rel_next (k' := line.size + 1) (s' := ⟨0, q, op, bs ++ line[k] :: line.data.toList.drop (k + 1), sn, out⟩) hlt HG'.out (by rw [drop_end (k := line.size + 1) (by omega)]; exact st_K n q op bs sn out _ _ (.inr ⟨H45.out, by rw [drop_at hlt2, drop_end hlt3, H45b.out]; rfl⟩)) hs1 (hSt.keep (((Oth.refl p wr).drew).trans ho1) HPB.out) ((hbel.drew).trans hb1) (by omega) (by go_num) (by have e5 : line.data.toList.length = line.size := rfl; simp only [List.length_append, List.length_cons, List.length_drop, e5]; omega) (by simp; omega) (show (0 : Nat) ≤ 2 by decide)
                      case measure => simp [intOf]; omega
                · have H45b : Hid (line[k + 1] ≠ 45) := h45b
                  clear h45b
                  as_aux_lemma =>
                    have tn47 : ((line[k].toNat : Int) == 47) = false := b_no (c := line[k]) (m := 47) (by rw [H45.out]; decide)
                    have tn59 : ((line[k].toNat : Int) == 59) = false := b_no (c := line[k]) (m := 59) (by rw [H45.out]; decide)
                    have tn32 : ((line[k].toNat : Int) == 32) = false := b_no (c := line[k]) (m := 32) (by rw [H45.out]; decide)
                    have tn9 : ((line[k].toNat : Int) == 9) = false := b_no (c := line[k]) (m := 9) (by rw [H45.out]; decide)
                    have tn39 : ((line[k].toNat : Int) == 39) = false := b_no (c := line[k]) (m := 39) (by rw [H45.out]; decide)
                    have tn34 : ((line[k].toNat : Int) == 34) = false := b_no (c := line[k]) (m := 34) (by rw [H45.out]; decide)
                    have tn96 : ((line[k].toNat : Int) == 96) = false := b_no (c := line[k]) (m := 96) (by rw [H45.out]; decide)
                    have hpd : hp (line.extract k line.size) ⟨#[45, 45]⟩ = false := by
                      rw [hp_at, drop_at hlt, drop_at hlt2]; simp only [List.isPrefixOf, Bool.and_eq_false_iff]; right; left; exact beq_eq_false_iff_ne.2 (fun e => H45b.out e.symm)
                    go_wp2_with (first | (go_at_call 21; refine (hp21 _ _ _ (by rw [size_at]; omega) (by decide)).mono ?_; rintro e _ ⟨rfl, rfl⟩) | (go_at_call 22; refine (begin22 B p 0 q op bs sn n _ hS).mono ?_; rintro e w0 ⟨rfl, hs0, hb0, ho0⟩))
                    have l0 : B ≤ w0.heap.size := Nat.le_trans (by omega) hb0.size
                    refine (wbyte20 B p 0 q op (bb bs sn) (bn n sn) line[k] w0 hs0 (by omega) (by omega)).mono ?_
                    rintro e w1 ⟨rfl, hs1, hb1, ho1⟩
                    go_wp2
                    go_roundw
                    case rel => exact rel_next (k' := k + 1) (s' := ⟨0, q, op, bb bs sn ++ [line[k]], bn n sn, out⟩) hlt HG'.out (st_Dn n q op bs sn out _ _ (fun h => h.elim (fun h => absurd (H45.out.symm.trans h) (by decide)) (fun h => by have h2 := h.2; rw [drop_at hlt2] at h2; simp [dashC] at h2; exact H45b.out h2.1)) (fun h => absurd (H45.out.symm.trans h.1) (by decide)) (by rw [H45.out]; decide) (by rw [H45.out]; decide) (by rw [H45.out]; decide)) hs1 (hSt.keep (ho0.trans ho1) HPB.out) ((hbel.trans hb0).trans hb1) (by omega) (by go_num) (by simp; omega) (by simp; omega) (show (0 : Nat) ≤ 2 by decide)
                    case measure => simp [intOf]; omega
              · as_aux_lemma =>
                  have tn47 : ((line[k].toNat : Int) == 47) = false := b_no (c := line[k]) (m := 47) (by rw [H45.out]; decide)
                  have tn59 : ((line[k].toNat : Int) == 59) = false := b_no (c := line[k]) (m := 59) (by rw [H45.out]; decide)
                  have tn32 : ((line[k].toNat : Int) == 32) = false := b_no (c := line[k]) (m := 32) (by rw [H45.out]; decide)
                  have tn9 : ((line[k].toNat : Int) == 9) = false := b_no (c := line[k]) (m := 9) (by rw [H45.out]; decide)
                  have tn39 : ((line[k].toNat : Int) == 39) = false := b_no (c := line[k]) (m := 39) (by rw [H45.out]; decide)
                  have tn34 : ((line[k].toNat : Int) == 34) = false := b_no (c := line[k]) (m := 34) (by rw [H45.out]; decide)
                  have tn96 : ((line[k].toNat : Int) == 96) = false := b_no (c := line[k]) (m := 96) (by rw [H45.out]; decide)
                  have hpd : hp (line.extract k line.size) ⟨#[45, 45]⟩ = false := by
                    rw [hp_at, drop_at hlt, drop_end hlt2]; simp [List.isPrefixOf]
                  go_wp2_with (first | (go_at_call 21; refine (hp21 _ _ _ (by rw [size_at]; omega) (by decide)).mono ?_; rintro e _ ⟨rfl, rfl⟩) | (go_at_call 22; refine (begin22 B p 0 q op bs sn n _ hS).mono ?_; rintro e w0 ⟨rfl, hs0, hb0, ho0⟩))
                  have l0 : B ≤ w0.heap.size := Nat.le_trans (by omega) hb0.size
                  refine (wbyte20 B p 0 q op (bb bs sn) (bn n sn) line[k] w0 hs0 (by omega) (by omega)).mono ?_
                  rintro e w1 ⟨rfl, hs1, hb1, ho1⟩
                  go_wp2
                  go_roundw
                  case rel => exact rel_next (k' := k + 1) (s' := ⟨0, q, op, bb bs sn ++ [line[k]], bn n sn, out⟩) hlt HG'.out (st_Dn n q op bs sn out _ _ (fun h => h.elim (fun h => absurd (H45.out.symm.trans h) (by decide)) (fun h => by have h2 := h.2; rw [drop_end hlt2] at h2; cases h2)) (fun h => absurd (H45.out.symm.trans h.1) (by decide)) (by rw [H45.out]; decide) (by rw [H45.out]; decide) (by rw [H45.out]; decide)) hs1 (hSt.keep (ho0.trans ho1) HPB.out) ((hbel.trans hb0).trans hb1) (by omega) (by go_num) (by simp; omega) (by simp; omega) (show (0 : Nat) ≤ 2 by decide)
                  case measure => simp [intOf]; omega
            · have t45 : ((line[k].toNat : Int) == 45) = false := b_no h45
              have H45 : Hid (line[k] ≠ 45) := h45
              clear h45
              by_cases h47 : line[k] = 47
              · have t47 : ((line[k].toNat : Int) == 47) = true := b_yes h47
                have H47 : Hid (line[k] = 47) := h47
                clear h47
                by_cases hlt2 : k + 1 < line.size
                · by_cases h42b : line[k + 1] = 42
                  · have H42b : Hid (line[k + 1] = 42) := h42b
                    clear h42b
                    by_cases h33 : (line.data.toList.drop (k + 1 + 1)).head? = some 33
                    · as_aux_lemma =>
                        have H33 : Hid ((line.data.toList.drop (k + 1 + 1)).head? = some 33) := h33
                        clear h33
                        have hps : hp (line.extract k line.size) ⟨#[47, 42]⟩ = true := by
                          rw [hp_at, drop_at hlt, drop_at hlt2, H47.out, H42b.out]; rfl
                        have hpx : hp (line.extract k line.size) ⟨#[47, 42, 33]⟩ = true := by
                          rw [hp_at, drop_at hlt, drop_at hlt2, H47.out, H42b.out]; have h3 := H33.out; cases hd : List.drop (k + 1 + 1) line.data.toList with | nil => rw [hd] at h3; cases h3 | cons a l => rw [hd] at h3; simp at h3; subst h3; rfl
                        go_wp2_with (first | (go_at_call 21; refine (hp21 _ _ _ (by rw [size_at]; omega) (by decide)).mono ?_; rintro e _ ⟨rfl, rfl⟩) | (go_at_call 22; refine (begin22 B p 0 q op bs sn n _ hS).mono ?_; rintro e wb ⟨rfl, hsb, hbb, hob⟩; obtain ⟨e0, e1, e2, e5, eff, elp⟩ := sc_cells hsb; have ef0 := eff 0; have ef2 := eff 2; have HB2 : Hid (ScIs (wb.setCell ⟨p, 0, none⟩ (.int .u8 ((1 : Nat) : Int))) B p 1 q op (bb bs sn) (bn n sn)) := sc_st hsb 1))
                        have hs2 := sc_op (sc_st hsb 1) n
                        have lB : B ≤ wb.heap.size := Nat.le_trans (Nat.le_trans hBw lw) hbb.size
                        have ho2 : Oth p wr ((wb.setCell ⟨p, 0, none⟩ (.int .u8 ((1 : Nat) : Int))).setCell ⟨p, 2, none⟩ (.int .i64 n)) := (hob.setCell _).setCell _
                        have hb2 : Below B w ((wb.setCell ⟨p, 0, none⟩ (.int .u8 ((1 : Nat) : Int))).setCell ⟨p, 2, none⟩ (.int .i64 n)) := ((hbel.trans hbb).setCell (p := ⟨p, 0, none⟩) hB _).setCell (p := ⟨p, 2, none⟩) hB _
                        refine (wbyte20 B p 1 q n (bb bs sn) (bn n sn) line[k] _ hs2 (by omega) (by simp [World.setCell]; omega)).mono ?_
                        rintro e w1 ⟨rfl, hs1, hb1, ho1⟩
                        have l1 : B ≤ w1.heap.size := Nat.le_trans (by simp [World.setCell]; omega) hb1.size
                        go_wp2_with fail
                        refine (wbyte20 B p 1 q n (bb bs sn ++ [line[k]]) (bn n sn) line[k + 1] _ hs1 (by simp; omega) (by omega)).mono ?_
                        rintro e w3 ⟨rfl, hs3, hb3, ho3⟩
                        go_wp2
                        go_roundw
                        case rel => exact rel_next (k' := k + 2) (s' := ⟨1, q, n, bb bs sn ++ [line[k]] ++ [line[k + 1]], bn n sn, out⟩) hlt HG'.out (by rw [drop_at hlt2]; exact st_S1 n q op bs sn out _ _ _ H47.out H42b.out H33.out) hs3 (hSt.keep ((ho2.trans ho1).trans ho3) HPB.out) ((hb2.trans hb1).trans hb3) (by omega) (by go_num) (by simp; omega) (by simp; omega) (show (1 : Nat) ≤ 2 by decide)
                        case measure => simp [intOf]; omega
                    · as_aux_lemma =>
                        have H33 : Hid ((line.data.toList.drop (k + 1 + 1)).head? ≠ some 33) := h33
                        clear h33
                        have hps : hp (line.extract k line.size) ⟨#[47, 42]⟩ = true := by
                          rw [hp_at, drop_at hlt, drop_at hlt2, H47.out, H42b.out]; rfl
                        have hpx : hp (line.extract k line.size) ⟨#[47, 42, 33]⟩ = false := by
                          rw [hp_at, drop_at hlt, drop_at hlt2, H47.out, H42b.out]; have h3 := H33.out; cases hd : List.drop (k + 1 + 1) line.data.toList with | nil => rfl | cons a l => rw [hd] at h3; simp at h3; simp [List.isPrefixOf]; exact fun e => h3 e.symm
                        have ef0 := ff 0
                        have ef2 := ff 2
                        go_wp2_with (go_at_call 21; refine (hp21 _ _ _ (by rw [size_at]; omega) (by decide)).mono ?_; rintro e _ ⟨rfl, rfl⟩)
                        have hs2 := sc_op (sc_st hS 1) n
                        have lB : B ≤ wr.heap.size := Nat.le_trans hBw lw
                        have ho2 : Oth p wr ((wr.setCell ⟨p, 0, none⟩ (.int .u8 ((1 : Nat) : Int))).setCell ⟨p, 2, none⟩ (.int .i64 n)) := ((Oth.refl p wr).setCell _).setCell _
                        have hb2 : Below B w ((wr.setCell ⟨p, 0, none⟩ (.int .u8 ((1 : Nat) : Int))).setCell ⟨p, 2, none⟩ (.int .i64 n)) := (hbel.setCell (p := ⟨p, 0, none⟩) hB _).setCell (p := ⟨p, 2, none⟩) hB _
                        refine (wbyte20 B p 1 q n (bs) (sn) line[k] _ hs2 (by omega) (by simp [World.setCell]; omega)).mono ?_
                        rintro e w1 ⟨rfl, hs1, hb1, ho1⟩
                        have l1 : B ≤ w1.heap.size := Nat.le_trans (by simp [World.setCell]; omega) hb1.size
                        go_wp2_with fail
                        refine (wbyte20 B p 1 q n (bs ++ [line[k]]) (sn) line[k + 1] _ hs1 (by simp; omega) (by omega)).mono ?_
                        rintro e w3 ⟨rfl, hs3, hb3, ho3⟩
                        go_wp2
                        go_roundw
                        case rel => exact rel_next (k' := k + 2) (s' := ⟨1, q, n, bs ++ [line[k]] ++ [line[k + 1]], sn, out⟩) hlt HG'.out (by rw [drop_at hlt2]; exact st_S3 n q op bs sn out _ _ _ H47.out H42b.out H33.out) hs3 (hSt.keep ((ho2.trans ho1).trans ho3) HPB.out) ((hb2.trans hb1).trans hb3) (by omega) (by go_num) (by simp; omega) (by simp; omega) (show (1 : Nat) ≤ 2 by decide)
                        case measure => simp [intOf]; omega
                  · have H42b : Hid (line[k + 1] ≠ 42) := h42b
                    clear h42b
                    as_aux_lemma =>
                      have tn59 : ((line[k].toNat : Int) == 59) = false := b_no (c := line[k]) (m := 59) (by rw [H47.out]; decide)
                      have tn32 : ((line[k].toNat : Int) == 32) = false := b_no (c := line[k]) (m := 32) (by rw [H47.out]; decide)
                      have tn9 : ((line[k].toNat : Int) == 9) = false := b_no (c := line[k]) (m := 9) (by rw [H47.out]; decide)
                      have tn39 : ((line[k].toNat : Int) == 39) = false := b_no (c := line[k]) (m := 39) (by rw [H47.out]; decide)
                      have tn34 : ((line[k].toNat : Int) == 34) = false := b_no (c := line[k]) (m := 34) (by rw [H47.out]; decide)
                      have tn96 : ((line[k].toNat : Int) == 96) = false := b_no (c := line[k]) (m := 96) (by rw [H47.out]; decide)
                      have hps : hp (line.extract k line.size) ⟨#[47, 42]⟩ = false := by
                        rw [hp_at, drop_at hlt, drop_at hlt2]; simp only [List.isPrefixOf, Bool.and_eq_false_iff]; right; left; exact beq_eq_false_iff_ne.2 (fun e => H42b.out e.symm)
                      go_wp2_with (first | (go_at_call 21; refine (hp21 _ _ _ (by rw [size_at]; omega) (by decide)).mono ?_; rintro e _ ⟨rfl, rfl⟩) | (go_at_call 22; refine (begin22 B p 0 q op bs sn n _ hS).mono ?_; rintro e w0 ⟨rfl, hs0, hb0, ho0⟩))
                      have l0 : B ≤ w0.heap.size := Nat.le_trans (by omega) hb0.size
                      refine (wbyte20 B p 0 q op (bb bs sn) (bn n sn) line[k] w0 hs0 (by omega) (by omega)).mono ?_
                      rintro e w1 ⟨rfl, hs1, hb1, ho1⟩
                      go_wp2
                      go_roundw
                      case rel => exact rel_next (k' := k + 1) (s' := ⟨0, q, op, bb bs sn ++ [line[k]], bn n sn, out⟩) hlt HG'.out (st_Dn n q op bs sn out _ _ (fun h => h.elim (fun h => absurd (H47.out.symm.trans h) (by decide)) (fun h => absurd (H47.out.symm.trans h.1) (by decide))) (fun h => by have h2 := h.2; rw [drop_at hlt2] at h2; simp at h2; exact H42b.out h2) (by rw [H47.out]; decide) (by rw [H47.out]; decide) (by rw [H47.out]; decide)) hs1 (hSt.keep (ho0.trans ho1) HPB.out) ((hbel.trans hb0).trans hb1) (by omega) (by go_num) (by simp; omega) (by simp; omega) (show (0 : Nat) ≤ 2 by decide)
                      case measure => simp [intOf]; omega
                · as_aux_lemma =>
                    have tn59 : ((line[k].toNat : Int) == 59) = false := b_no (c := line[k]) (m := 59) (by rw [H47.out]; decide)
                    have tn32 : ((line[k].toNat : Int) == 32) = false := b_no (c := line[k]) (m := 32) (by rw [H47.out]; decide)
                    have tn9 : ((line[k].toNat : Int) == 9) = false := b_no (c := line[k]) (m := 9) (by rw [H47.out]; decide)
                    have tn39 : ((line[k].toNat : Int) == 39) = false := b_no (c := line[k]) (m := 39) (by rw [H47.out]; decide)
                    have tn34 : ((line[k].toNat : Int) == 34) = false := b_no (c := line[k]) (m := 34) (by rw [H47.out]; decide)
                    have tn96 : ((line[k].toNat : Int) == 96) = false := b_no (c := line[k]) (m := 96) (by rw [H47.out]; decide)
                    have hps : hp (line.extract k line.size) ⟨#[47, 42]⟩ = false := by
                      rw [hp_at, drop_at hlt, drop_end hlt2]; simp [List.isPrefixOf]
                    go_wp2_with (first | (go_at_call 21; refine (hp21 _ _ _ (by rw [size_at]; omega) (by decide)).mono ?_; rintro e _ ⟨rfl, rfl⟩) | (go_at_call 22; refine (begin22 B p 0 q op bs sn n _ hS).mono ?_; rintro e w0 ⟨rfl, hs0, hb0, ho0⟩))
                    have l0 : B ≤ w0.heap.size := Nat.le_trans (by omega) hb0.size
                    refine (wbyte20 B p 0 q op (bb bs sn) (bn n sn) line[k] w0 hs0 (by omega) (by omega)).mono ?_
                    rintro e w1 ⟨rfl, hs1, hb1, ho1⟩
                    go_wp2
                    go_roundw
                    case rel => exact rel_next (k' := k + 1) (s' := ⟨0, q, op, bb bs sn ++ [line[k]], bn n sn, out⟩) hlt HG'.out (st_Dn n q op bs sn out _ _ (fun h => h.elim (fun h => absurd (H47.out.symm.trans h) (by decide)) (fun h => absurd (H47.out.symm.trans h.1) (by decide))) (fun h => by have h2 := h.2; rw [drop_end hlt2] at h2; cases h2) (by rw [H47.out]; decide) (by rw [H47.out]; decide) (by rw [H47.out]; decide)) hs1 (hSt.keep (ho0.trans ho1) HPB.out) ((hbel.trans hb0).trans hb1) (by omega) (by go_num) (by simp; omega) (by simp; omega) (show (0 : Nat) ≤ 2 by decide)
                    case measure => simp [intOf]; omega
              · have t47 : ((line[k].toNat : Int) == 47) = false := b_no h47
                have H47 : Hid (line[k] ≠ 47) := h47
                clear h47
                by_cases h59 : line[k] = 59
                · have t59 : ((line[k].toNat : Int) == 59) = true := b_yes h59
                  have H59 : Hid (line[k] = 59) := h59
                  clear h59
                  by_cases hsn : sn = 0
                  · as_aux_lemma =>
                      have tsn : (sn != 0) = false := by rw [bne_eq_false_iff_eq]; exact hsn
                      have HSN : Hid (sn = 0) := hsn
                      clear hsn
                      obtain ⟨_, ap, vb, hblk, _⟩ := hS
                      go_wp2_with fail
                      refine (reset23 B p 0 q op sn ap vb wr hB hblk).mono ?_
                      rintro e w1 ⟨rfl, hs1, hb1, ho1⟩
                      obtain ⟨d0, d1, d2, d5, dff, dlp⟩ := sc_cells hs1
                      have df5 := dff 5
                      have hs2 := sc_sn hs1 0
                      go_wp2
                      go_roundw
                      case rel => exact rel_next (k' := k + 1) (s' := ⟨0, q, op, [], 0, out⟩) hlt HG'.out (st_M2 n q op bs sn out _ _ H59.out HSN.out) hs2 (hSt.keep (ho1.setCell _) HPB.out) ((hbel.trans hb1).setCell (p := ⟨p, 5, none⟩) hB _) (by omega) (by go_num) (by simp; omega) (by simp; omega) (show (0 : Nat) ≤ 2 by decide)
                      case measure => simp [intOf]; omega
                  · as_aux_lemma =>
                      have tsn : (sn != 0) = true := by rw [bne_iff_ne]; exact hsn
                      have HSN : Hid (sn ≠ 0) := hsn
                      clear hsn
                      go_wp2_with fail
                      refine (wbyte20 B p 0 q op bs sn line[k] wr hS (by omega) (by omega)).mono ?_
                      rintro e w1 ⟨rfl, hs1, hb1, ho1⟩
                      obtain ⟨d0, d1, d2, d5, dff, dlp⟩ := sc_cells hs1
                      have hSt1 : Stmts w1 B _ out := hSt.keep ho1 HPB.out
                      obtain ⟨pcs1, hpb1⟩ := sc_blk hs1
                      have HPB1 : Hid (w1.heap[p]? = some (.cells pcs1 44 (0, 0))) := hpb1
                      clear hpb1
                      have hs1d : ScIs w1.drew B p 0 q op (bs ++ [line[k]]) sn := hs1
                      have l1 : B ≤ w1.heap.size := Nat.le_trans (by omega) hb1.size
                      obtain ⟨i34, hi34, hz340, hz341, hz342⟩ := info_parts Try.info34
                      have hne7 : u7.ownBlock ≠ some p := stOwn_ne hSt1.1 HPB1.out
                      go_wp2_with fail
                      go_region_held3 (fun w' => w'.cell? ⟨p, 5, none⟩ = some (.int .i64 sn))
                        (first | go_keep | exact hq5 | (exact (hgrow.cell_far ⟨p, 5, none⟩ (by simp; omega) (Ne.symm hne7)).trans (by simp [*])))
                        (first | (go_at_call 18; refine (str18 B p 0 q op (bs ++ [line[k]]) sn w1.drew hs1d (by simp) (by simp; omega)).mono ?_; rintro e wq ⟨rfl, ⟨apq, vq, hbq⟩, hbelq, hothq⟩; have hq5 := (blk_cells hbq).2.2.2.2.2; have lq := blk_lt hbq) | (refine step_append_lies _ (by rfl) _ _ _ (by rfl) B 34 i34 _ 2 24 Try.underlying24 hi34 hz340 hz341 hz342 rfl (by omega) u7 out.length (stCells out) (by rfl) ((hSt1.keep (((Oth.refl p w1).drew).trans hothq) HPB1.out).1.alloc _) ⟨wq.heap.size, 0, none⟩ 1 1 [.int .i64 sn, .string ⟨(bs ++ [line[k]]).toArray⟩] (by rfl) (by rfl) (World.news_of_block (heap_alloc_new wq _)) (by simp [Value.oneCell']) (by omega) (by unfold maxLen; omega) (by omega) (by have := hbelq.size; simp at this ⊢; omega) _ rfl ?_; intro g cap w2 hown hgrow hat hg2))
                      have hq2 : w2.heap[p]? = wq.heap[p]? := (hgrow.block p (by simp; omega) (Ne.symm hne7)).trans (Below.heap_alloc wq _ p lq)
                      have hbk2 : Blk w2 p 0 q op apq vq sn := hq2.trans hbq
                      have hSt2 : Stmts w2 B (.slice (some ⟨g, 0, none⟩) (out.length + 1) cap) (out ++ [(sn, bs ++ [line[k]])]) := by
                        refine ⟨?_, fun h => by simp at h⟩
                        have e1 : (out ++ [(sn, bs ++ [line[k]])]).length = out.length + 1 := by simp
                        have e2 : stCells (out ++ [(sn, bs ++ [line[k]])]) = stCells out ++ [.int .i64 sn, .string ⟨(bs ++ [line[k]]).toArray⟩] := by simp [stCells]
                        rw [e1, e2]; exact hown
                      have hbw2 : Below B w w2 := ((((hbel.trans hb1).drew).trans hbelq).alloc (by have := hbelq.size; simp at this; omega) _).grown hgrow (by have := hbelq.size; simp at this ⊢; omega) (fun j hj => ((hSt1.1).lt j hj).1)
                      have hp2 : ∃ cs2, w2.heap[p]? = some (.cells cs2 44 (0, 0)) := ⟨_, hbk2⟩
                      obtain ⟨cs2, hp2⟩ := hp2
                      have HP2 : Hid (w2.heap[p]? = some (.cells cs2 44 (0, 0))) := hp2
                      clear hp2 hown hgrow hat hg2 hq2 hq5 hbelq hothq hbq hSt1 hSt d0 d1 d2 d5 dff hs1d hs1 c0 c1 c2 c5 ff
                      go_wp2_with fail
                      refine (reset23 B p 0 q op sn apq vq w2 hB hbk2).mono ?_
                      rintro e w3 ⟨rfl, hs3, hb3, ho3⟩
                      obtain ⟨d0, d1, d2, d5, dff, dlp⟩ := sc_cells hs3
                      have df5 := dff 5
                      have hs4 := sc_sn hs3 0
                      go_wp2
                      go_roundw
                      case rel => exact rel_next (k' := k + 1) (s' := ⟨0, q, op, [], 0, out ++ [(sn, bs ++ [line[k]])]⟩) hlt HG'.out (st_M1 n q op bs sn out _ _ H59.out HSN.out) hs4 (hSt2.keep (ho3.setCell _) HP2.out) ((hbw2.trans hb3).setCell (p := ⟨p, 5, none⟩) hB _) (by omega) (by go_num) (by simp; omega) (by simp; omega) (show (0 : Nat) ≤ 2 by decide)
                      case measure => simp [intOf]; omega
                · have t59 : ((line[k].toNat : Int) == 59) = false := b_no h59
                  have H59 : Hid (line[k] ≠ 59) := h59
                  clear h59
                  by_cases h32 : line[k] = 32
                  · have t32 : ((line[k].toNat : Int) == 32) = true := b_yes h32
                    have H32 : Hid (line[k] = 32) := h32
                    clear h32
                    as_aux_lemma =>
                      go_wp2_with fail
                      refine (wbyte20 B p 0 q op (bs) sn line[k] _ hS (by omega) (by first | omega | (simp [World.setCell]; omega))).mono ?_
                      rintro e w1 ⟨rfl, hs1, hb1, ho1⟩
                      go_wp2
                      go_roundw
                      case rel => exact rel_next (k' := k + 1) (s' := ⟨0, q, op, bs ++ [line[k]], sn, out⟩) hlt HG'.out (st_W n q op bs sn out _ _ (.inl H32.out)) hs1 (hSt.keep ((Oth.refl p wr).trans ho1) HPB.out) (hbel.trans hb1) (by omega) (by go_num) (by simp; omega) (by simp; omega) (show (0 : Nat) ≤ 2 by decide)
                      case measure => simp [intOf]; omega
                  · have t32 : ((line[k].toNat : Int) == 32) = false := b_no h32
                    have H32 : Hid (line[k] ≠ 32) := h32
                    clear h32
                    by_cases h9 : line[k] = 9
                    · have t9 : ((line[k].toNat : Int) == 9) = true := b_yes h9
                      have H9 : Hid (line[k] = 9) := h9
                      clear h9
                      as_aux_lemma =>
                        go_wp2_with fail
                        refine (wbyte20 B p 0 q op (bs) sn line[k] _ hS (by omega) (by first | omega | (simp [World.setCell]; omega))).mono ?_
                        rintro e w1 ⟨rfl, hs1, hb1, ho1⟩
                        go_wp2
                        go_roundw
                        case rel => exact rel_next (k' := k + 1) (s' := ⟨0, q, op, bs ++ [line[k]], sn, out⟩) hlt HG'.out (st_W n q op bs sn out _ _ (.inr H9.out)) hs1 (hSt.keep ((Oth.refl p wr).trans ho1) HPB.out) (hbel.trans hb1) (by omega) (by go_num) (by simp; omega) (by simp; omega) (show (0 : Nat) ≤ 2 by decide)
                        case measure => simp [intOf]; omega
                    · have t9 : ((line[k].toNat : Int) == 9) = false := b_no h9
                      have H9 : Hid (line[k] ≠ 9) := h9
                      clear h9
                      by_cases h39 : line[k] = 39
                      · have t39 : ((line[k].toNat : Int) == 39) = true := b_yes h39
                        have H39 : Hid (line[k] = 39) := h39
                        clear h39
                        as_aux_lemma =>
                          obtain ⟨_, _, _, _, ff0, _⟩ := sc_cells hS
                          clear ff0
                          go_wp2_with (go_at_call 22; refine (begin22 B p 0 q op bs sn n _ hS).mono ?_; rintro e wb ⟨rfl, hsb, hbb, hob⟩; obtain ⟨e0, e1, e2, e5, eff, elp⟩ := sc_cells hsb; have ef0 := eff 0; have ef1 := eff 1; have ef2 := eff 2)
                          have hs2 := sc_op (sc_q (sc_st hsb 2) line[k]) n
                          have lB : B ≤ wb.heap.size := Nat.le_trans (Nat.le_trans hBw lw) hbb.size
                          have ho2 : Oth p wr (((wb.setCell ⟨p, 0, none⟩ (.int .u8 ((2 : Nat) : Int))).setCell ⟨p, 1, none⟩ (.int .u8 (line[k].toNat : Int))).setCell ⟨p, 2, none⟩ (.int .i64 n)) := ((hob.setCell _).setCell _).setCell _
                          have hb2 : Below B w (((wb.setCell ⟨p, 0, none⟩ (.int .u8 ((2 : Nat) : Int))).setCell ⟨p, 1, none⟩ (.int .u8 (line[k].toNat : Int))).setCell ⟨p, 2, none⟩ (.int .i64 n)) := (((hbel.trans hbb).setCell (p := ⟨p, 0, none⟩) hB _).setCell (p := ⟨p, 1, none⟩) hB _).setCell (p := ⟨p, 2, none⟩) hB _
                          refine (wbyte20 B p 2 line[k] n (bb bs sn) (bn n sn) line[k] _ hs2 (by omega) (by simp [World.setCell]; omega)).mono ?_
                          rintro e w1 ⟨rfl, hs1, hb1, ho1⟩
                          go_wp2
                          go_roundw
                          case rel => exact rel_next (k' := k + 1) (s' := ⟨2, line[k], n, bb bs sn ++ [line[k]], bn n sn, out⟩) hlt HG'.out (st_Dq n q op bs sn out _ _ (.inl H39.out)) hs1 (hSt.keep (ho2.trans ho1) HPB.out) (hb2.trans hb1) (by omega) (by go_num) (by simp; omega) (by simp; omega) (show (2 : Nat) ≤ 2 by decide)
                          case measure => simp [intOf]; omega
                      · have t39 : ((line[k].toNat : Int) == 39) = false := b_no h39
                        have H39 : Hid (line[k] ≠ 39) := h39
                        clear h39
                        by_cases h34 : line[k] = 34
                        · have t34 : ((line[k].toNat : Int) == 34) = true := b_yes h34
                          have H34 : Hid (line[k] = 34) := h34
                          clear h34
                          as_aux_lemma =>
                            obtain ⟨_, _, _, _, ff0, _⟩ := sc_cells hS
                            clear ff0
                            go_wp2_with (go_at_call 22; refine (begin22 B p 0 q op bs sn n _ hS).mono ?_; rintro e wb ⟨rfl, hsb, hbb, hob⟩; obtain ⟨e0, e1, e2, e5, eff, elp⟩ := sc_cells hsb; have ef0 := eff 0; have ef1 := eff 1; have ef2 := eff 2)
                            have hs2 := sc_op (sc_q (sc_st hsb 2) line[k]) n
                            have lB : B ≤ wb.heap.size := Nat.le_trans (Nat.le_trans hBw lw) hbb.size
                            have ho2 : Oth p wr (((wb.setCell ⟨p, 0, none⟩ (.int .u8 ((2 : Nat) : Int))).setCell ⟨p, 1, none⟩ (.int .u8 (line[k].toNat : Int))).setCell ⟨p, 2, none⟩ (.int .i64 n)) := ((hob.setCell _).setCell _).setCell _
                            have hb2 : Below B w (((wb.setCell ⟨p, 0, none⟩ (.int .u8 ((2 : Nat) : Int))).setCell ⟨p, 1, none⟩ (.int .u8 (line[k].toNat : Int))).setCell ⟨p, 2, none⟩ (.int .i64 n)) := (((hbel.trans hbb).setCell (p := ⟨p, 0, none⟩) hB _).setCell (p := ⟨p, 1, none⟩) hB _).setCell (p := ⟨p, 2, none⟩) hB _
                            refine (wbyte20 B p 2 line[k] n (bb bs sn) (bn n sn) line[k] _ hs2 (by omega) (by simp [World.setCell]; omega)).mono ?_
                            rintro e w1 ⟨rfl, hs1, hb1, ho1⟩
                            go_wp2
                            go_roundw
                            case rel => exact rel_next (k' := k + 1) (s' := ⟨2, line[k], n, bb bs sn ++ [line[k]], bn n sn, out⟩) hlt HG'.out (st_Dq n q op bs sn out _ _ (.inr <| .inl H34.out)) hs1 (hSt.keep (ho2.trans ho1) HPB.out) (hb2.trans hb1) (by omega) (by go_num) (by simp; omega) (by simp; omega) (show (2 : Nat) ≤ 2 by decide)
                            case measure => simp [intOf]; omega
                        · have t34 : ((line[k].toNat : Int) == 34) = false := b_no h34
                          have H34 : Hid (line[k] ≠ 34) := h34
                          clear h34
                          by_cases h96 : line[k] = 96
                          · have t96 : ((line[k].toNat : Int) == 96) = true := b_yes h96
                            have H96 : Hid (line[k] = 96) := h96
                            clear h96
                            as_aux_lemma =>
                              obtain ⟨_, _, _, _, ff0, _⟩ := sc_cells hS
                              clear ff0
                              go_wp2_with (go_at_call 22; refine (begin22 B p 0 q op bs sn n _ hS).mono ?_; rintro e wb ⟨rfl, hsb, hbb, hob⟩; obtain ⟨e0, e1, e2, e5, eff, elp⟩ := sc_cells hsb; have ef0 := eff 0; have ef1 := eff 1; have ef2 := eff 2)
                              have hs2 := sc_op (sc_q (sc_st hsb 2) line[k]) n
                              have lB : B ≤ wb.heap.size := Nat.le_trans (Nat.le_trans hBw lw) hbb.size
                              have ho2 : Oth p wr (((wb.setCell ⟨p, 0, none⟩ (.int .u8 ((2 : Nat) : Int))).setCell ⟨p, 1, none⟩ (.int .u8 (line[k].toNat : Int))).setCell ⟨p, 2, none⟩ (.int .i64 n)) := ((hob.setCell _).setCell _).setCell _
                              have hb2 : Below B w (((wb.setCell ⟨p, 0, none⟩ (.int .u8 ((2 : Nat) : Int))).setCell ⟨p, 1, none⟩ (.int .u8 (line[k].toNat : Int))).setCell ⟨p, 2, none⟩ (.int .i64 n)) := (((hbel.trans hbb).setCell (p := ⟨p, 0, none⟩) hB _).setCell (p := ⟨p, 1, none⟩) hB _).setCell (p := ⟨p, 2, none⟩) hB _
                              refine (wbyte20 B p 2 line[k] n (bb bs sn) (bn n sn) line[k] _ hs2 (by omega) (by simp [World.setCell]; omega)).mono ?_
                              rintro e w1 ⟨rfl, hs1, hb1, ho1⟩
                              go_wp2
                              go_roundw
                              case rel => exact rel_next (k' := k + 1) (s' := ⟨2, line[k], n, bb bs sn ++ [line[k]], bn n sn, out⟩) hlt HG'.out (st_Dq n q op bs sn out _ _ (.inr <| .inr H96.out)) hs1 (hSt.keep (ho2.trans ho1) HPB.out) (hb2.trans hb1) (by omega) (by go_num) (by simp; omega) (by simp; omega) (show (2 : Nat) ≤ 2 by decide)
                              case measure => simp [intOf]; omega
                          · have t96 : ((line[k].toNat : Int) == 96) = false := b_no h96
                            have H96 : Hid (line[k] ≠ 96) := h96
                            clear h96
                            as_aux_lemma =>
                              go_wp2_with (first | (go_at_call 21; refine (hp21 _ _ _ (by rw [size_at]; omega) (by decide)).mono ?_; rintro e _ ⟨rfl, rfl⟩) | (go_at_call 22; refine (begin22 B p 0 q op bs sn n _ hS).mono ?_; rintro e w0 ⟨rfl, hs0, hb0, ho0⟩))
                              have l0 : B ≤ w0.heap.size := Nat.le_trans (by omega) hb0.size
                              refine (wbyte20 B p 0 q op (bb bs sn) (bn n sn) line[k] w0 hs0 (by omega) (by omega)).mono ?_
                              rintro e w1 ⟨rfl, hs1, hb1, ho1⟩
                              go_wp2
                              go_roundw
                              case rel => exact rel_next (k' := k + 1) (s' := ⟨0, q, op, bb bs sn ++ [line[k]], bn n sn, out⟩) hlt HG'.out (st_Dn n q op bs sn out _ _ (fun h => h.elim H35.out (fun h => H45.out h.1)) (fun h => H47.out h.1) H59.out (fun h => h.elim H32.out H9.out) (fun h => h.elim H39.out (fun h => h.elim H34.out H96.out))) hs1 (hSt.keep (ho0.trans ho1) HPB.out) ((hbel.trans hb0).trans hb1) (by omega) (by go_num) (by simp; omega) (by simp; omega) (show (0 : Nat) ≤ 2 by decide)
                              case measure => simp [intOf]; omega
    · as_aux_lemma =>
        have hE := goes_end (by have h := HG'.out; rw [drop_end hlt] at h; exact h)
        subst hE
        go_wp2_with fail
        refine (wbyte20 B p st q op bs sn 10 wr hS (by omega) (by omega)).mono ?_
        rintro e w1 ⟨rfl, hs1, hb1, ho1⟩
        go_wp2
        go_ret
        exact ⟨_, rfl, hSt.keep ho1 HPB.out, hs1, hbel.trans hb1⟩

end Go.Proofs.Qxb6625814a
