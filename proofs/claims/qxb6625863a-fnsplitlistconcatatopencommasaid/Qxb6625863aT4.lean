import Derived.Test.Qxb6625863aT3
namespace Go.Proofs.Qxb6625863a
open Go.RowKit
set_option linter.unusedVariables false
set_option linter.unusedSimpArgs false

theorem strs_at (out : List (List UInt8)) (i : Nat) (h : i < out.length) : (strs out)[i]? = some (.string ⟨(out.getD i []).toArray⟩) := by
  simp [strs, List.getElem?_eq_getElem h]

/-- The slice v reads as the list. -/
def RdL (w : World) (v : Value) (out : List (List UInt8)) : Prop :=
  ∃ g c, v = .slice (some ⟨g, 0, none⟩) out.length c ∧ ∀ i, i < out.length → w.cell? ⟨g, i, none⟩ = some (.string ⟨(out.getD i []).toArray⟩)
theorem Lst.rd {w : World} {B : Nat} {v : Value} {out : List (List UInt8)} (h : Lst w B v out) (hne : out ≠ []) : RdL w v out := by
  rcases h.2 with ⟨_, h0⟩ | ⟨g, cap, cur, rfl, _⟩
  · exact absurd (List.eq_nil_of_length_eq_zero h0) hne
  · refine ⟨g, cap, rfl, fun i hi => ?_⟩
    have := World.ownsRow.cellAt h i (by omega)
    rw [this]
    exact strs_at out i hi
theorem Lst.keep {w w' : World} {B' B : Nat} {v : Value} {out : List (List UInt8)} (h : Lst w B v out) (hb : Below B' w w') (hB : w.heap.size ≤ B') : Lst w' B v out := by
  refine ⟨h.1, ?_⟩
  rcases h.2 with hn | ⟨g, cap, cur, e1, hg, hh, rest⟩
  · exact .inl hn
  · exact .inr ⟨g, cap, cur, e1, hg, by rw [hb.block g (by have := lt_of_block hh; omega)]; exact hh, rest⟩

def RetD (w : World) (v : Value) (e : Ending) (w' : World) : Prop := e = .returned v ∧ ∃ n, w.drewN n = w'

set_option maxHeartbeats 1000000 in
theorem same8 (v v' : Value) (out : List (List UInt8)) (w : World) (hl : out.length ≤ 4194304) (h0 : RdL w v out) (h1 : RdL w v' out) :
    Calls Try.prog 8 #[v, v'] w (RetD w (.bool true)) := by
  obtain ⟨g, c, rfl, h0⟩ := h0
  obtain ⟨g', c', rfl, h1⟩ := h1
  have H0 : Hid (∀ i, i < out.length → w.cell? ⟨g, i, none⟩ = some (.string ⟨(out.getD i []).toArray⟩)) := h0
  have H1 : Hid (∀ i, i < out.length → w.cell? ⟨g', i, none⟩ = some (.string ⟨(out.getD i []).toArray⟩)) := h1
  clear h0 h1
  go_enter Try.func8, Try.ntmps8
  go_wp2
  go_loopw [5] (fun i wr => ∃ k : Nat, k ≤ out.length ∧ i = .int .i64 k ∧ ∃ nq, wr = w.drewN nq) (fun i _ => out.length - (intOf i).toNat)
  case atStart => exact ⟨0, Nat.zero_le _, rfl, 0, rfl⟩
  case round =>
    obtain ⟨k, hk, rfl, n0, rfl⟩ := hrel
    by_cases hlt : k < out.length
    · have a1 := H0.out k hlt
      have b1 := H1.out k hlt
      generalize (⟨(out.getD k []).toArray⟩ : ByteArray) = y at a1 b1
      have hi0 : (k : Int) < (out.length : Int) := by omega
      go_wp2
      go_quiet (fail)
      go_wp2
      go_roundw
      case rel => exact ⟨k + 1, by omega, by go_num, _, rfl⟩
      case measure => simp [intOf]; omega
    · go_wp2
      go_ret
      exact ⟨rfl, n0, rfl⟩

theorem bytes5 (s : ByteArray) (w : World) (h0 : s.size ≤ maxLen) : Calls Try.prog 5 #[.string s] w (RetB w (fun b => b = true → s.size ≤ 1048576)) := by
  unfold maxLen at h0
  by_cases g : s.size ≤ 1048576
  · go_enter Try.func5, Try.ntmps5
    go_wp2
    go_ret
    exact ⟨true, rfl, rfl, fun _ => g⟩
  · go_enter Try.func5, Try.ntmps5
    go_wp2
    all_goals go_ret
    all_goals first | exact ⟨false, rfl, rfl, by simp⟩ | exact ⟨true, rfl, rfl, fun _ => by omega⟩

theorem sp_len : ∀ (l : List UInt8) (q e : Bool) (cur : List UInt8), (splitF q e cur l).length ≤ l.length + 1 := by
  intro l
  induction l with
  | nil => intro q e cur; rw [sp_nil]; simp
  | cons c t ih =>
    intro q e cur
    cases e with
    | true => rw [sp_esc]; have := ih q false (cur ++ [c]); simp; omega
    | false =>
      rw [splitF]
      split
      · have := ih q true (cur ++ [c]); simp; omega
      · split
        · have := ih (!q) false (cur ++ [c]); simp; omega
        · split
          · have := ih false false []; simp; omega
          · have := ih q false (cur ++ [c]); simp; omega


set_option maxRecDepth 100000 in
set_option maxHeartbeats 1000000 in
theorem walk3 (a0 : ByteArray) (w0 : a0.size ≤ maxLen) (w : World) :
    Calls Try.prog 3 #[.string a0] w fun e w' => e = .returned (.bool true) ∧ Below w.heap.size w w' := by
  go_enter Try.func3, Try.ntmps3
  go_wp2_with fail
  refine (bytes5 a0 w w0).mono ?_
  rintro e _ ⟨b, rfl, rfl, hb⟩
  cases b with
  | false =>
    go_wp2
    go_ret
    exact ⟨rfl, Below.refl _ _⟩
  | true =>
    have hbd := hb rfl
    clear hb
    obtain ⟨fin, hfin⟩ : ∃ fin, fin = splitF false false [] a0.data.toList := ⟨_, rfl⟩
    have hlen : fin.length ≤ a0.size + 1 := by rw [hfin]; exact sp_len _ _ _ _
    have hne : fin ≠ [] := by rw [hfin]; exact sp_ne _ _ _ _
    have HNE : Hid (fin ≠ []) := hne
    have c6 := fun w => split6 a0 w (by omega)
    have c7 := fun w => model7 a0 w (by omega)
    rw [← hfin] at c6 c7
    clear hfin hne
    go_wp2_with fail
    refine (c6 _).mono ?_
    rintro e w1 ⟨v1, rfl, L1, B1⟩
    have l1 := B1.size
    go_wp2_with fail
    refine (c7 _).mono ?_
    rintro e w2 ⟨v2, rfl, L2, B2⟩
    have R1 := (L1.keep B2 (Nat.le_refl _)).rd HNE.out
    have R2 := L2.rd HNE.out
    have BW : Below w.heap.size w w2 := B1.trans (B2.mono l1)
    clear L1 L2
    go_wp2_with fail
    refine (same8 v1 v2 fin w2 (by omega) R1 R2).mono ?_
    rintro e _ ⟨rfl, m, rfl⟩
    go_wp2
    go_ret
    exact ⟨rfl, below_drewN BW _⟩

end Go.Proofs.Qxb6625863a
