import Derived.Test.Qxb6625633aV4
import Derived.Deep.RegionWith
import Derived.Deep.DrawnRows
namespace Go.Proofs.Qxb6625633a
open Go.RowKit
set_option linter.unusedVariables false
attribute [local go_sem ↓] Go.wp_at_zero Go.wp_at_succ

theorem SetOk.next {F : Nat → Prop} {w w' : World} {sb nb : Nat} {ka : Option Addr} {zs ts ts' : List Int} {tv tv' : Value} (h : SetOk F w sb nb ka zs ts tv) (hk : Keep F w w') (hN : NodeIs w' nb ka zs.length tv') (hT : Tags F w' tv' ts') (hl : ts'.length = zs.length) :
    SetOk F w' sb nb ka zs ts' tv' := by
  refine ⟨fun k hk' => Nat.lt_of_lt_of_le (h.lt k hk') hk.size, h.nF, h.sF, ?_, hN, hT, hl, h.kF, h.rd.keepF h.kF hk⟩
  obtain ⟨x1, x2, x3, x4, hr⟩ := h.root
  exact ⟨x1, x2, x3, x4, (hk.block sb h.sF).trans hr⟩

theorem node_set {w : World} {nb n : Nat} {ka : Option Addr} {tv tv' : Value} (h : NodeIs w nb ka n tv) : NodeIs (w.setCell ⟨nb, 1, none⟩ tv') nb ka n tv' := by
  unfold NodeIs at h ⊢
  rw [heap_setCell_same w nb 1 _ _ _ h]
  rfl
theorem node_other {w : World} {nb n g i : Nat} {ka : Option Addr} {tv u : Value} (h : NodeIs w nb ka n tv) (hg : nb ≠ g) : NodeIs (w.setCell ⟨g, i, none⟩ u) nb ka n tv := by
  unfold NodeIs at h ⊢
  rw [Below.heap_setCell _ _ _ _ hg]
  exact h
theorem own_node_ne {w : World} {nb n g cap m : Nat} {ka : Option Addr} {tv : Value} {xs : List Value} (h : NodeIs w nb ka n tv) (ho : w.ownsRow 0 23 1 (.slice (some ⟨g, 0, none⟩) m cap) m xs) : nb ≠ g := by
  rintro rfl
  rcases ho.2 with ⟨h', _⟩ | ⟨g', cap', cur, h', _, hh, _⟩
  · cases h'
  · simp only [Value.slice.injEq, Option.some.injEq, Addr.mk.injEq, and_true, true_and] at h'
    obtain ⟨rfl, rfl⟩ := h'
    unfold NodeIs at h
    rw [h] at hh
    simp at hh

theorem own_set {w : World} {g cap i : Nat} {ts : List Int} {t : Int} (h : w.ownsRow 0 23 1 (.slice (some ⟨g, 0, none⟩) ts.length cap) ts.length (ts.map (Value.int .u64))) :
    (w.setCell ⟨g, i, none⟩ (.int .u64 t)).ownsRow 0 23 1 (.slice (some ⟨g, 0, none⟩) (ts.set i t).length cap) (ts.set i t).length ((ts.set i t).map (Value.int .u64)) := by
  rw [List.length_set, List.map_set]
  exact (h.stored i _).1

theorem own_other {w : World} {g cap nb i n : Nat} {xs : List Value} {u : Value} (h : w.ownsRow 0 23 1 (.slice (some ⟨g, 0, none⟩) n cap) n xs) (hg : nb ≠ g) : (w.setCell ⟨nb, i, none⟩ u).ownsRow 0 23 1 (.slice (some ⟨g, 0, none⟩) n cap) n xs :=
  ownsRow_setCell_other h (by simp [Value.ownBlock]; exact fun e => hg e.symm) _

theorem set_same {ts : List Int} {i : Nat} (h : i < ts.length) : ts.set i (ts.getD i 0) = ts := by
  have : ts.getD i 0 = ts[i] := by simp [h]
  rw [this, List.set_getElem_self]

theorem getD_set {ts : List Int} {i : Nat} {t : Int} (h : i < ts.length) : (ts.set i t).getD i 0 = t := by simp [h]

/-- What setTag comes to. -/
def RetSet (F : Nat → Prop) (w : World) (sb nb : Nat) (ka : Option Addr) (zs ts : List Int) (q t : Int) (e : Ending) (w' : World) : Prop :=
  (∃ i tv', i < zs.length ∧ zs.getD i 0 = q ∧ e = .returned (.tuple #[.int .u64 (ts.getD i 0), .bool true]) ∧ SetOk F w' sb nb ka zs (ts.set i t) tv' ∧ Keep F w w') ∨
  ∃ tv', (∀ j, j < zs.length → zs.getD j 0 ≠ q) ∧ e = .returned (.tuple #[.int .u64 0, .bool false]) ∧ SetOk F w' sb nb ka zs ts tv' ∧ Keep F w w'

set_option maxRecDepth 100000 in
set_option maxHeartbeats 2000000 in
theorem set17 (F : Nat → Prop) (sb nb : Nat) (ka : Option Addr) (zs ts : List Int) (tv : Value) (q t : Int) (w : World) (h : SetOk F w sb nb ka zs ts tv) (hA : Asc zs) (l : zs.length ≤ 1048576)
    (hz : ∀ i, 0 ≤ zs.getD i 0 ∧ zs.getD i 0 ≤ 18446744073709551615) (hn : 0 < zs.length) :
    Calls Try.prog 17 #[.pointer (some ⟨sb, 0, none⟩), .int .u64 q, .int .u64 t] w (RetSet F w sb nb ka zs ts q t) := by
  have HL : Hid (ts.length = zs.length) := h.len
  go_enter Try.func17, Try.ntmps17
  go_wp2_with fail
  refine (find18 sb nb ka tv zs q w h.root h.node h.rd hA l hz hn).mono ?_
  rintro e _ ⟨i, m, f, rfl, rfl, Hy, Hno⟩
  have K0 : Keep F w (w.drewN m) := (Keep.refl _ _).drewN _
  have h1 : SetOk F (w.drewN m) sb nb ka zs ts tv := h.next K0 h.node h.tags h.len
  generalize w.drewN m = W at K0 h1 ⊢
  clear h hz hA
  have hN := h1.node
  have k0 : W.cell? ⟨nb, 0, none⟩ = some (.slice ka zs.length zs.length) := by unfold NodeIs at hN; simp [World.cell?, hN]
  have k1 : W.cell? ⟨nb, 1, none⟩ = some tv := by unfold NodeIs at hN; simp [World.cell?, hN]
  have f1 : W.frozen? ⟨nb, 1, none⟩ = false := by unfold NodeIs at hN; simp [World.frozen?, hN]
  have hT := h1.tags
  cases f with
  | false =>
    have HN : Hid (∀ j, j < zs.length → zs.getD j 0 ≠ q) := Hno rfl
    clear Hno Hy
    go_wp2
    go_ret2
    exact .inr ⟨tv, HN.out, rfl, h1, K0⟩
  | true =>
  obtain ⟨hi, Hq⟩ := Hy rfl
  have HQ : Hid (zs.getD i 0 = q) := Hq
  clear Hy Hno Hq
  have hit : i < ts.length := by have := HL.out; omega
  have lt : ts.length ≤ 1048576 := by have := HL.out; omega
  go_wp2_with fail
  refine (at19 F tv ts i W hT hit lt).mono ?_
  rintro e _ ⟨rfl, rfl⟩
  generalize hold : ts.getD i 0 = old
  have HO : Hid (ts.getD i 0 = old) := hold
  clear hold
  by_cases ht : t = 0
  · subst ht
    by_cases ho : old = 0
    · subst ho
      go_wp2
      go_ret2
      refine .inl ⟨i, tv, hi, HQ.out, by rw [HO.out]; rfl, ?_, K0⟩
      rw [show ts.set i 0 = ts by have := set_same hit; rwa [HO.out] at this]
      exact h1
    · have ho' : (old != 0) = true := by simpa using ho
      rcases hT with ⟨_, hz⟩ | ⟨hz, g, cap, rfl, hown, hgF⟩
      · have := az_zero hz i; rw [HO.out] at this; exact absurd this ho
      clear hz ho
      have hne := own_node_ne hN hown
      have cg : W.cell? ⟨g, i, none⟩ = some (.int .u64 (ts.getD i 0)) := by rw [hown.cellAt i (by omega)]; simp [hit]
      have fg : W.frozen? ⟨g, i, none⟩ = false := hown.frozenAt i
      have o2 := own_set (i := i) (t := 0) hown
      have n2 : NodeIs (W.setCell ⟨g, i, none⟩ (.int .u64 0)) nb ka zs.length (.slice (some ⟨g, 0, none⟩) ts.length cap) := node_other hN hne
      have K2 : Keep F W (W.setCell ⟨g, i, none⟩ (.int .u64 0)) := (Keep.refl _ _).setCell hgF _
      have hll : (ts.set i 0).length = ts.length := List.length_set
      go_wp2_with fail
      generalize W.setCell ⟨g, i, none⟩ (.int .u64 0) = W2 at o2 n2 K2 ⊢
      rw [← hll]
      refine (trim21 g cap (ts.set i 0) W2 (row_rd o2) (by rw [hll]; exact lt)).mono ?_
      rintro e _ ⟨rfl, rfl⟩
      have d1 : W2.cell? ⟨nb, 1, none⟩ = some (.slice (some ⟨g, 0, none⟩) ts.length cap) := by unfold NodeIs at n2; simp [World.cell?, n2]
      have d2 : W2.frozen? ⟨nb, 1, none⟩ = false := by unfold NodeIs at n2; simp [World.frozen?, n2]
      have HLL : Hid ((ts.set i 0).length = ts.length) := hll
      clear hll k0 k1 f1 cg fg hown
      cases hz : az (ts.set i 0) with
      | true =>
        have HZ : Hid (az (ts.set i 0) = true) := hz
        rw [if_pos rfl]
        go_wp2
        go_ret2
        exact .inl ⟨i, _, hi, HQ.out, by rw [HO.out]; rfl, h1.next (K2.setCell h1.nF _) (node_set n2) (.inl ⟨rfl, HZ.out⟩) (HLL.out.trans HL.out), K0.trans (K2.setCell h1.nF _)⟩
      | false =>
        have HZ : Hid (az (ts.set i 0) = false) := hz
        rw [if_neg (by decide)]
        go_wp2
        go_ret2
        exact .inl ⟨i, _, hi, HQ.out, by rw [HO.out]; rfl, h1.next (K2.setCell h1.nF _) (node_set n2) (.inr ⟨HZ.out, g, cap, by rw [HLL.out], own_other o2 hne, hgF⟩) (HLL.out.trans HL.out), K0.trans (K2.setCell h1.nF _)⟩
  · have ht' : (t != 0) = true := by simpa using ht
    have HT0 : Hid (t ≠ 0) := ht
    clear ht
    have T1 : Hid (∀ (w1 : World), W.drew.grownBy w1 none → w1.cell? ⟨nb, 1, none⟩ = some tv ∧ w1.frozen? ⟨nb, 1, none⟩ = false ∧ NodeIs w1 nb ka zs.length tv ∧ Keep F W w1) := by
      intro w1 hg
      have hb : w1.heap[nb]? = W.heap[nb]? := hg.block nb (lt_of_block hN) (by simp)
      exact ⟨(World.cell?_of_block (a := ⟨nb, 1, none⟩) hb).trans k1, (World.frozen?_of_block (a := ⟨nb, 1, none⟩) hb).trans f1, hb.trans hN,
        ⟨hg.os, hg.tape, hg.output, hg.size, fun k hk => hg.block k (h1.lt k hk) (by simp)⟩⟩
    have hlen : (zs.length : Int) = (ts.length : Int) := by have := HL.out; omega
    have O20 : Hid (∀ w', Tags F w' tv ts → Calls Try.prog 20 #[tv, .int .i64 zs.length, .int .i64 zs.length] w' (RetZ w' tv ts)) := by
      intro w' h'
      rw [hlen]
      exact orz20 F tv ts w' h' lt
    clear hlen
    go_wp2_with fail
    go_region_with (go_at_call 20; refine (O20.out _ (by exact hT)).mono ?_; rintro e w1 ⟨g, cap, rfl, hown, hgrow, hor⟩; obtain ⟨d1, d2, d3, d4⟩ := T1.out _ hgrow)
    all_goals
      have hne : nb ≠ g := own_node_ne d3 hown
      have hgF : ¬ F g := by
        rcases hor with e1 | e1
        · rcases hT with ⟨e2, _⟩ | ⟨_, g', cap', e2, _, hgF⟩
          · rw [e2] at e1; cases e1
          · rw [e2] at e1; cases e1; exact hgF
        · intro hf; have := h1.lt g hf; exact absurd this (Nat.not_lt.2 e1)
      have n2 : NodeIs (w1.setCell ⟨nb, 1, none⟩ (.slice (some ⟨g, 0, none⟩) ts.length cap)) nb ka zs.length (.slice (some ⟨g, 0, none⟩) ts.length cap) := node_set d3
      have o2 := own_other (i := 1) (u := .slice (some ⟨g, 0, none⟩) ts.length cap) hown hne
      have K2 : Keep F W (w1.setCell ⟨nb, 1, none⟩ (.slice (some ⟨g, 0, none⟩) ts.length cap)) := d4.setCell h1.nF _
      generalize w1.setCell ⟨nb, 1, none⟩ (.slice (some ⟨g, 0, none⟩) ts.length cap) = W2 at n2 o2 K2 ⊢
      clear hown hgrow hor d1 d2 d3 d4 O20 T1 k0 k1 f1 hT
      have e1 : W2.cell? ⟨nb, 1, none⟩ = some (.slice (some ⟨g, 0, none⟩) ts.length cap) := by unfold NodeIs at n2; simp [World.cell?, n2]
      have cg : W2.cell? ⟨g, i, none⟩ = some (.int .u64 (ts.getD i 0)) := by rw [o2.cellAt i (by omega)]; simp [hit]
      have fg : W2.frozen? ⟨g, i, none⟩ = false := o2.frozenAt i
      go_wp2
      go_ret2
      exact .inl ⟨i, _, hi, HQ.out, by rw [HO.out]; rfl, h1.next (K2.setCell hgF _) (node_other n2 hne) (.inr ⟨az_false (i := i) (by rw [List.length_set]; exact hit) (by rw [getD_set hit]; exact HT0.out), g, cap, by rw [List.length_set], own_set o2, hgF⟩) (List.length_set.trans HL.out), K0.trans (K2.setCell hgF _)⟩

end Go.Proofs.Qxb6625633a
