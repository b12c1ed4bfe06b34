import Derived.Test.Qxb6625863aT5
namespace Go.Proofs.Qxb6625863a
open Go.RowKit
set_option linter.unusedVariables false
set_option linter.unusedSimpArgs false

theorem join_app (b : List (List UInt8)) (hb : b ≠ []) : ∀ a, a ≠ [] → joinF (a ++ b) = joinF a ++ 44 :: joinF b := by
  intro a
  induction a with
  | nil => intro h; exact absurd rfl h
  | cons y t ih =>
    intro _
    cases t with
    | nil =>
      cases b with
      | nil => exact absurd rfl hb
      | cons z r => simp [joinF]
    | cons z r =>
      have := ih (by simp)
      simp only [List.cons_append, joinF] at this ⊢
      rw [this]; simp
theorem join_take (l : List (List UInt8)) (k : Nat) : (joinF (l.take k)).length ≤ (joinF l).length := by
  by_cases h1 : l.take k = []
  · rw [h1]; simp [joinF]
  · by_cases h2 : l.drop k = []
    · have := List.take_append_drop k l
      rw [h2, List.append_nil] at this
      rw [this]; exact Nat.le_refl _
    · have := join_app (l.drop k) h2 (l.take k) h1
      rw [List.take_append_drop] at this
      rw [this]; simp
theorem take_next (l : List (List UInt8)) (k : Nat) (h : k < l.length) : l.take (k + 1) = l.take k ++ [l.getD k []] := by
  rw [List.take_add_one, List.getD_eq_getElem?_getD, List.getElem?_eq_getElem h]
  rfl
theorem join_first (l : List (List UInt8)) (h : 0 < l.length) : joinF (l.take (0 + 1)) = [] ++ l.getD 0 [] := by
  rw [take_next l 0 h]; simp [joinF]
theorem join_next (l : List (List UInt8)) (k : Nat) (h : k < l.length) (hk : 0 < k) : joinF (l.take (k + 1)) = joinF (l.take k) ++ [44] ++ l.getD k [] := by
  rw [take_next l k h, join_snoc _ _ (by intro e; have := congrArg List.length e; rw [List.length_take, List.length_nil] at this; omega)]; simp

/-- It returns the string; from the world's size on it has made what it needed. -/
def RetS (w : World) (s : List UInt8) (e : Ending) (w' : World) : Prop := e = .returned (.string ⟨s.toArray⟩) ∧ Below w.heap.size w w'
def JRel (w : World) (out : List (List UInt8)) (v i : Value) (wr : World) : Prop :=
  ∃ (k : Nat) (bs : List UInt8), k ≤ out.length ∧ i = .int .i64 k ∧ Hid (bs = joinF (out.take k)) ∧ Buf wr w.heap.size v bs ∧ Below w.heap.size w wr

set_option maxRecDepth 100000 in
set_option maxHeartbeats 1000000 in
theorem join11 (v : Value) (out : List (List UInt8)) (w : World) (hl : out.length ≤ 2097152) (hj : (joinF out).length ≤ 2097152) (h0 : RdL w v out) :
    Calls Try.prog 11 #[v] w (RetS w (joinF out)) := by
  obtain ⟨g, c, rfl, h0⟩ := h0
  have H0 : Hid (∀ i, i < out.length → w.cell? ⟨g, i, none⟩ = some (.string ⟨(out.getD i []).toArray⟩)) := h0
  clear h0
  have HR : JRel w out (.slice none 0 0) (.int .i64 0) w := ⟨0, [], Nat.zero_le _, rfl, by simp [Hid, joinF], World.ownsRow_nil _ _ _ _, Below.refl _ _⟩
  obtain ⟨i0, hi, hz0, hz1, hz2⟩ := info_parts Try.info5
  have HJ : Hid ((joinF out).length ≤ 2097152) := hj
  go_enter Try.func11, Try.ntmps11
  go_wp2_with fail
  go_loopw [3, 4] (fun v i wr => JRel w out v i wr) (fun _ i _ => out.length - (intOf i).toNat)
  case atStart => exact HR
  case round =>
    clear HR
    obtain ⟨k, bs, hk, rfl, HB, hB, hbel⟩ := hrel
    have hlw := hbel.size
    have hbl : bs.length ≤ 2097152 := by rw [HB.out]; exact Nat.le_trans (join_take _ _) HJ.out
    obtain ⟨a, c3, rfl⟩ := own_shape hB
    have hown : wr.ownsRow w.heap.size 5 1 (.slice a bs.length c3) bs.length (Lib.byteCells bs) := hB
    by_cases hlt : k < out.length
    · have hcell : wr.cell? ⟨g, k, none⟩ = some (.string ⟨(out.getD k []).toArray⟩) := (hbel.cell (World.block_lt_of_cell? w _ (H0.out k hlt))).trans (H0.out k hlt)
      have hjt := join_take out (k + 1)
      obtain ⟨s, hs⟩ : ∃ s : ByteArray, s = ⟨(out.getD k []).toArray⟩ := ⟨_, rfl⟩
      have hsl : s.data.toList = out.getD k [] := by rw [hs]
      have HS : Hid (s.data.toList = out.getD k []) := hsl
      have hss : s.size = (out.getD k []).length := by rw [← hsl]; rfl
      rw [← hs] at hcell
      clear hs hsl
      have hi0 : (k : Int) < (out.length : Int) := by omega
      by_cases hk0 : k = 0
      · subst hk0
        have hb0 : bs = [] := by rw [HB.out]; simp [joinF]
        subst hb0
        have HB2 : Hid ([] ++ s.data.toList = joinF (out.take (0 + 1))) := by
          show _ = _
          rw [HS.out]; exact (join_first out hlt).symm
        have hs2 : s.size ≤ 2097152 := by
          have := congrArg List.length HB2.out
          rw [List.length_append, List.length_nil] at this
          have e : s.data.toList.length = s.size := rfl
          have := HJ.out
          omega
        clear HB hjt hss
        go_wp2_with (at_builtin; refine Lib.wpList_append_own_string _ rfl _ _ 30 9 rfl w.heap.size 5 i0 Try.underlying30 Try.underlying9 hi hz0 hz1 hz2 (.slice a ([] : List UInt8).length c3) ([] : List UInt8).length (Lib.byteCells []) rfl hown s rfl (by unfold maxLen; simp; omega) (by simp; omega) (by omega) ?_; intro v2 w2 hown2 hgrow2 hnn; clear hnn)
        go_roundw
        case rel => exact ⟨0 + 1, _, hlt, by go_num, HB2, Buf.str_add hown2, hbel.grown hgrow2 (by omega) (fun j hj => (hown.lt j hj).1)⟩
        case measure => simp [intOf]; omega
      · have hkp : 0 < k := by omega
        have HB2 : Hid (bs ++ [44] ++ s.data.toList = joinF (out.take (k + 1))) := by
          show _ = _
          rw [HS.out, HB.out]; exact (join_next out k hlt hkp).symm
        have hs2 : bs.length + 1 + s.size ≤ 2097152 := by
          have h1 := congrArg List.length HB2.out
          rw [List.length_append, List.length_append] at h1
          have e : s.data.toList.length = s.size := rfl
          have e1 : ([44] : List UInt8).length = 1 := rfl
          have := HJ.out
          omega
        clear HB hjt hss hk0
        have hkd : (0 : Int) < (k : Int) := by omega
        have T1 : Hid (∀ (o : Obj) (w1 : World), (wr.alloc o).grownBy w1 (Value.slice a bs.length c3).ownBlock → Below w.heap.size w w1) := by
          intro o w1 hg
          exact (hbel.alloc (by omega) _).grown hg (by simp; omega) (fun j hj => (hown.lt j hj).1)
        have hgl : g < w.heap.size := World.block_lt_of_cell? w _ (H0.out k hlt)
        have HCW : Hid (w.cell? ⟨g, k, none⟩ = some (.string s)) := (hbel.cell (p := ⟨g, k, none⟩) (by exact hgl)).symm.trans hcell
        have el : (bs ++ [44]).length = bs.length + 1 := by simp
        go_wp2_with (first
          | (at_builtin; refine wpList_append_lies _ rfl (.tmp 13) (.tmp 14) 30 rfl w.heap.size 5 i0 (.int .u8 0) 1 1 Try.underlying30 hi hz0 hz1 hz2 rfl (by decide) (.slice a bs.length c3) bs.length (Lib.byteCells bs) rfl (hown.alloc _) ⟨wr.heap.size, 0, none⟩ 1 1 [.int .u8 ((44 : UInt8).toNat : Int)] rfl rfl (World.news_of_block (heap_alloc_new wr _)) (by simp [Value.oneCell']) (by decide) (by unfold maxLen; omega) (by omega) (by simp; omega) _ rfl ?_; intro g1 cp1 w1 hown1 hgrow1 h5 h6; clear h5 h6; have hbel1 := T1.out _ _ hgrow1; have hcell1 := (hbel1.cell (p := ⟨g, k, none⟩) (by exact hgl)).trans HCW.out; have hl1 := hbel1.size; have hB1 : Buf w1 w.heap.size (.slice (some ⟨g1, 0, none⟩) (bs.length + 1) cp1) (bs ++ [44]) := Buf.byte_add hown1; have hown1' : w1.ownsRow w.heap.size 5 1 (.slice (some ⟨g1, 0, none⟩) (bs.length + 1) cp1) (bs ++ [44]).length (Lib.byteCells (bs ++ [44])) := hB1; clear hown1 hgrow1)
          | (at_builtin; refine Lib.wpList_append_own_string _ rfl (.tmp 16) (.tmp 20) 30 9 rfl w.heap.size 5 i0 Try.underlying30 Try.underlying9 hi hz0 hz1 hz2 (.slice (some ⟨g1, 0, none⟩) (bs.length + 1) cp1) (bs ++ [44]).length (Lib.byteCells (bs ++ [44])) rfl hown1' s rfl (by unfold maxLen; omega) (by omega) (by omega) ?_; intro v2 w2 hown2 hgrow2 hnn; clear hnn))
        go_roundw
        case rel => exact ⟨k + 1, _, hlt, by go_num, HB2, Buf.str_add hown2, hbel1.grown hgrow2 (by omega) (fun j hj => (hown1'.lt j hj).1)⟩
        case measure => simp [intOf]; omega
    · obtain rfl : k = out.length := by omega
      have hjo : bs = joinF out := by rw [HB.out, List.take_length]
      have HJO : Hid (bs = joinF out) := hjo
      have hcv := hB.str
      clear hjo HB H0
      obtain ⟨TX, hTX⟩ : ∃ TX : ByteArray, TX = ⟨bs.toArray⟩ := ⟨_, rfl⟩
      rw [← hTX] at hcv
      have HTX : Hid (TX = ⟨bs.toArray⟩) := hTX
      clear hTX
      go_wp2
      go_ret
      refine ⟨?_, hbel⟩
      rw [← HJO.out, ← HTX.out]
      rfl

end Go.Proofs.Qxb6625863a
