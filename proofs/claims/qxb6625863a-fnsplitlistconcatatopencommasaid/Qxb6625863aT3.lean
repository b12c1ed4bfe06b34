import Derived.Test.Qxb6625863aT2
import Derived.Deep.QuietTactic
import Derived.BigQuiet
namespace Go.Proofs.Qxb6625863a
open Go.RowKit
set_option linter.unusedVariables false
set_option linter.unusedSimpArgs false

/-- What zzQuotedEnd answers at a. -/
def qx (field : ByteArray) (a : Nat) : Nat × Bool := match qEnd (field.data.toList.drop a) with | none => (field.size, false) | some e => (a + e, true)

theorem qe_esc {c : UInt8} {t : List UInt8} (hc : c = 92) : qEnd (c :: t) = (qEnd t.tail).map (· + 2) := by
  cases t with
  | nil => unfold qEnd; rw [if_pos hc]; rfl
  | cons d t => rw [qEnd, if_pos hc]; rfl
theorem qe_hit {c : UInt8} {t : List UInt8} (h : c ≠ 92) (hc : c = 34) : qEnd (c :: t) = some 1 := by
  cases t with
  | nil => unfold qEnd; rw [if_neg h, if_pos hc]
  | cons d t => rw [qEnd, if_neg h, if_pos hc]
theorem qe_go {c : UInt8} {t : List UInt8} (h : c ≠ 92) (hc : c ≠ 34) : qEnd (c :: t) = (qEnd t).map (· + 1) := by
  cases t with
  | nil => unfold qEnd; rw [if_neg h, if_neg hc]; rfl
  | cons d t => rw [qEnd, if_neg h, if_neg hc]

theorem qx_esc {field : ByteArray} {k : Nat} (hk : k < field.size) (h : field[k] = 92) : qx field k = qx field (k + 2) := by
  unfold qx
  rw [drop_at hk, qe_esc h, List.tail_drop]
  cases qEnd (field.data.toList.drop (k + 1 + 1)) with
  | none => rfl
  | some e => simp; omega
theorem qx_hit {field : ByteArray} {k : Nat} (hk : k < field.size) (h : field[k] ≠ 92) (h2 : field[k] = 34) : qx field k = (k + 1, true) := by
  unfold qx
  rw [drop_at hk, qe_hit h h2]
theorem qx_go {field : ByteArray} {k : Nat} (hk : k < field.size) (h : field[k] ≠ 92) (h2 : field[k] ≠ 34) : qx field k = qx field (k + 1) := by
  unfold qx
  rw [drop_at hk, qe_go h h2]
  cases qEnd (field.data.toList.drop (k + 1)) with
  | none => rfl
  | some e => simp; omega
theorem qx_end {field : ByteArray} {k : Nat} (hk : ¬ k < field.size) : qx field k = (field.size, false) := by
  unfold qx
  rw [drop_end hk]; rfl

def QRel (w : World) (field : ByteArray) (X : Nat × Bool) (i : Value) (wr : World) : Prop := w = wr ∧ ∃ k : Nat, k ≤ 4194304 ∧ i = .int .i64 k ∧ Hid (qx field k = X)

set_option maxRecDepth 100000 in
set_option maxHeartbeats 1000000 in
theorem quoted13 (field : ByteArray) (a : Nat) (i0 : Int) (hi0 : i0 = (a : Int)) (w : World) (hs : field.size ≤ 2097152) (ha : a ≤ 2097153) (X : Nat × Bool) (hX : qx field a = X) :
    Calls Try.prog 13 #[.string field, .int .i64 i0] w (RetV w (.tuple #[.int .i64 (X.1 : Int), .bool X.2])) := by
  subst hi0
  obtain ⟨x, b⟩ := X
  have HR : QRel w field (x, b) (.int .i64 (a : Int)) w := ⟨rfl, a, by omega, rfl, hX⟩
  clear hX
  dsimp only
  go_enter Try.func13, Try.ntmps13
  go_wp2_with fail
  go_loopw [1, 6] (fun i _ wr => QRel w field (x, b) i wr) (fun i _ _ => field.size + 2 - (intOf i).toNat)
  case atStart => exact HR
  case round =>
    clear HR
    obtain ⟨rfl, k, hk, rfl, HX⟩ := hrel
    by_cases hlt : k < field.size
    · by_cases h92 : field[k] = 92
      · have t92 : ((field[k].toNat : Int) == 92) = true := b_yes h92
        have HX2 : Hid (qx field (k + 2) = (x, b)) := (qx_esc hlt h92).symm.trans HX.out
        clear HX h92
        go_wp2
        go_roundw
        case rel => exact ⟨rfl, k + 2, by omega, by go_num, HX2⟩
        case measure => simp [intOf]; omega
      · have t92 : ((field[k].toNat : Int) == 92) = false := b_no h92
        by_cases h34 : field[k] = 34
        · have t34 : ((field[k].toNat : Int) == 34) = true := b_yes h34
          have hx := (qx_hit hlt h92 h34).symm.trans HX.out
          simp only [Prod.mk.injEq] at hx
          obtain ⟨rfl, rfl⟩ := hx
          clear HX h92 h34
          go_wp2
          go_ret2
          exact ⟨by go_num, rfl⟩
        · have t34 : ((field[k].toNat : Int) == 34) = false := b_no h34
          have HX2 : Hid (qx field (k + 1) = (x, b)) := (qx_go hlt h92 h34).symm.trans HX.out
          clear HX h92 h34
          go_wp2
          go_roundw
          case rel => exact ⟨rfl, k + 1, by omega, by go_num, HX2⟩
          case measure => simp [intOf]; omega
    · have hx := (qx_end hlt).symm.trans HX.out
      simp only [Prod.mk.injEq] at hx
      obtain ⟨rfl, rfl⟩ := hx
      clear HX
      go_wp2
      go_ret2
      exact ⟨rfl, rfl⟩

/-- Over the quoted text that opens at k. -/
theorem sp_jump {field : ByteArray} {s k : Nat} (hs : s ≤ k) (hk : k < field.size) (h34 : field[k] = 34) :
    k < (qx field (k + 1)).1 ∧ (qx field (k + 1)).1 ≤ field.size ∧ splitF false false (field.extract s k).data.toList (field.data.toList.drop k) = splitF false false (field.extract s (qx field (k + 1)).1).data.toList (field.data.toList.drop (qx field (k + 1)).1) := by
  have hl : field.data.toList.length = field.size := rfl
  rw [drop_at hk, sp_q _ _ _ _ h34]
  have h := sp_quoted _ (field.data.toList.drop (k + 1)) ((field.extract s k).data.toList ++ [field[k]]) (Nat.le_refl _)
  unfold qx
  cases hb : qEnd (field.data.toList.drop (k + 1)) with
  | none =>
    rw [hb] at h
    refine ⟨hk, Nat.le_refl _, ?_⟩
    show splitF true false _ _ = _
    rw [h, drop_end (k := field.size) (by omega), sp_nil, ext_end, ← ext_succ hs hk, ext_list]
    congr 1
    have e := List.take_append_drop (k + 1 - s) (field.data.toList.drop s)
    rw [List.drop_drop, show s + (k + 1 - s) = k + 1 by omega] at e
    exact e
  | some e =>
    rw [hb] at h
    obtain ⟨h1, h2, h3⟩ := h
    rw [List.length_drop, hl] at h1
    refine ⟨by show k < k + 1 + e; omega, by show k + 1 + e ≤ _; omega, ?_⟩
    show splitF true false _ _ = splitF false false (field.extract s (k + 1 + e)).data.toList (field.data.toList.drop (k + 1 + e))
    rw [h3, List.drop_drop, ← ext_succ hs hk, ext_list, ext_list]
    congr 1
    rw [show k + 1 + e - s = (k + 1 - s) + e by omega, List.take_add, List.drop_drop, show s + (k + 1 - s) = k + 1 by omega]

def MRel (w : World) (field : ByteArray) (fin : List (List UInt8)) (v vs vi : Value) (wr : World) : Prop :=
  ∃ (k s : Nat) (out : List (List UInt8)), k ≤ field.size ∧ s ≤ k ∧ vi = .int .i64 k ∧ vs = .int .i64 s ∧ Hid (out ++ splitF false false (field.extract s k).data.toList (field.data.toList.drop k) = fin) ∧ Lst wr w.heap.size v out ∧ Below w.heap.size w wr ∧ out.length ≤ k

set_option maxRecDepth 100000 in
set_option maxHeartbeats 2000000 in
theorem model7 (field : ByteArray) (w : World) (hs : field.size ≤ 2097152) : Calls Try.prog 7 #[.string field] w (RetL w (splitF false false [] field.data.toList)) := by
  obtain ⟨fin, hfin⟩ : ∃ fin, fin = splitF false false [] field.data.toList := ⟨_, rfl⟩
  rw [← hfin]
  have HR : MRel w field fin (.slice none 0 0) (.int .i64 0) (.int .i64 0) w := ⟨0, 0, [], Nat.zero_le _, Nat.le_refl _, rfl, rfl, by rw [ext_self]; exact hfin.symm, World.ownsRow_nil _ _ _ _, Below.refl _ _, Nat.le_refl _⟩
  clear hfin
  obtain ⟨i9, hi9, hz0, hz1, hz2⟩ := info_parts Try.info9
  go_enter Try.func7, Try.ntmps7
  go_wp2_with fail
  go_loopw [3, 4, 5, 6, 7, 8] (fun v vs vi _ _ _ wr => MRel w field fin v vs vi wr) (fun _ _ vi _ _ _ _ => field.size - (intOf vi).toNat)
  case atStart => exact HR
  case round =>
    clear HR
    obtain ⟨k, s, out, hk, hsk, rfl, rfl, HX, hL, hbel, hol⟩ := hrel
    have hlw := hbel.size
    obtain ⟨a, c, rfl⟩ := own_shape hL
    by_cases hlt : k < field.size
    · by_cases h34 : field[k] = 34
      · have t34 : ((field[k].toNat : Int) == 34) = true := b_yes h34
        obtain ⟨j1, j2, j3⟩ := sp_jump hsk hlt h34
        have c13 := fun w => quoted13 field (k + 1) ((k : Int) + 1) rfl w hs (by omega) _ rfl
        obtain ⟨X, hX⟩ : ∃ X, qx field (k + 1) = X := ⟨_, rfl⟩
        rw [hX] at j1 j2 j3 c13
        obtain ⟨x, b⟩ := X
        dsimp only at j1 j2 j3 c13
        have HX2 : Hid (out ++ splitF false false (field.extract s x).data.toList (field.data.toList.drop x) = fin) := by
          show _ = _
          rw [← j3]; exact HX.out
        clear HX h34 hX j3
        go_wp2_with fail
        refine (c13 _).mono ?_
        rintro e _ ⟨rfl, rfl⟩
        go_wp2
        go_roundw
        case rel => exact ⟨x, s, out, j2, by omega, rfl, rfl, HX2, hL, hbel, by omega⟩
        case measure => simp [intOf]; omega
      · have t34 : ((field[k].toNat : Int) == 34) = false := b_no h34
        by_cases h44 : field[k] = 44
        · have t44 : ((field[k].toNat : Int) == 44) = true := b_yes h44
          have HX2 : Hid ((out ++ [(field.extract s k).data.toList]) ++ splitF false false (field.extract (k + 1) (k + 1)).data.toList (field.data.toList.drop (k + 1)) = fin) := by
            show _ = _
            have h := HX.out
            rw [drop_at hlt, sp_c _ _ _ h44] at h
            rw [ext_self, List.append_assoc]; exact h
          clear HX h34 h44
          have hown : wr.ownsRow w.heap.size 9 1 (.slice a out.length c) out.length (strs out) := hL
          go_wp2_with (at_builtin; refine wpList_append_lies _ rfl _ _ 23 rfl w.heap.size 9 i9 _ 1 16 Try.underlying23 hi9 hz0 hz1 hz2 rfl (by decide) (.slice a out.length c) out.length (strs out) rfl (hown.alloc _) ⟨wr.heap.size, 0, none⟩ 1 1 [.string (field.extract s k)] rfl rfl (World.news_of_block (heap_alloc_new wr _)) (by simp [Value.oneCell']) (by decide) (by unfold maxLen; omega) (by omega) (by simp; omega) _ rfl ?_; intro g' cp' w2 hown2 hgrow2 h5 h6; clear h5 h6)
          go_roundw
          case rel => exact ⟨k + 1, k + 1, _, hlt, Nat.le_refl _, by go_num, by go_num, HX2, lst_add hown2, (hbel.alloc (by omega) _).grown hgrow2 (by simp; omega) (fun j hj => (hown.lt j hj).1), by simp; omega⟩
          case measure => simp [intOf]; omega
        · have t44 : ((field[k].toNat : Int) == 44) = false := b_no h44
          have HX2 : Hid (out ++ splitF false false (field.extract s (k + 1)).data.toList (field.data.toList.drop (k + 1)) = fin) := by
            show _ = _
            have h := HX.out
            rw [drop_at hlt, sp_o _ _ _ _ (fun e => absurd e.1 (by decide)) h34 (fun e => h44 e.1), ← ext_succ hsk hlt] at h
            exact h
          clear HX h34 h44
          go_wp2
          go_roundw
          case rel => exact ⟨k + 1, s, out, hlt, by omega, by go_num, rfl, HX2, hL, hbel, by omega⟩
          case measure => simp [intOf]; omega
    · obtain rfl : k = field.size := by omega
      obtain rfl : out ++ [(field.extract s field.size).data.toList] = fin := by
        have h := HX.out
        rw [drop_end hlt, sp_nil] at h
        exact h
      clear HX
      have hown : wr.ownsRow w.heap.size 9 1 (.slice a out.length c) out.length (strs out) := hL
      go_wp2_with (at_builtin; refine wpList_append_lies _ rfl _ _ 23 rfl w.heap.size 9 i9 _ 1 16 Try.underlying23 hi9 hz0 hz1 hz2 rfl (by decide) (.slice a out.length c) out.length (strs out) rfl (hown.alloc _) ⟨wr.heap.size, 0, none⟩ 1 1 [.string (field.extract s field.size)] rfl rfl (World.news_of_block (heap_alloc_new wr _)) (by simp [Value.oneCell']) (by decide) (by unfold maxLen; omega) (by omega) (by simp; omega) _ rfl ?_; intro g' cp' w2 hown2 hgrow2 h5 h6; clear h5 h6)
      go_ret
      exact ⟨_, rfl, lst_add hown2, (hbel.alloc (by omega) _).grown hgrow2 (by simp; omega) (fun j hj => (hown.lt j hj).1)⟩

end Go.Proofs.Qxb6625863a
