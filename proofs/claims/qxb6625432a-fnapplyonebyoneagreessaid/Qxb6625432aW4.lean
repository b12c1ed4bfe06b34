import Derived.Test.Qxb6625432aW3
import Derived.Deep.RegionLaw
import Derived.Deep.AppendLies
import Derived.Laws.EntriesVeiled
namespace Go.Proofs.Qxb6625432a
open Go.RowKit
set_option linter.unusedVariables false

theorem Try.info42 : (Try.prog.info? 42).map (fun i => (i.zero, i.size, i.bytes)) = some (some .nilFunc, 1, 8) := by kernel_rfl
theorem Try.info20 : (Try.prog.info? 20).map (fun i => (i.zero, i.size, i.bytes)) = some (some .nilIface, 1, 16) := by kernel_rfl

/-- A row of the call's own, its block between lo and hi, that holds xs. -/
def Rw (w : World) (lo hi : Nat) (e : TypeId) (v : Value) (xs : List Value) : Prop := w.ownsRow lo e 1 v xs.length xs ∧ ∀ k, v.ownBlock = some k → k < hi

theorem ownsRow_below {w w' : World} {B lo : Nat} {e : TypeId} {size : Nat} {v : Value} {n : Nat} {xs : List Value} (h : w.ownsRow lo e size v n xs) (hb : Below B w w') (hv : ∀ k, v.ownBlock = some k → k < B) : w'.ownsRow lo e size v n xs := by
  refine ⟨h.1, ?_⟩
  rcases h.2 with hn | ⟨g, cap, cur, rfl, hg, hh, rest⟩
  · exact .inl hn
  · exact .inr ⟨g, cap, cur, rfl, hg, by rw [hb.block g (hv g rfl)]; exact hh, rest⟩

theorem Rw.keep {w w' : World} {B lo hi : Nat} {e : TypeId} {v : Value} {xs : List Value} (h : Rw w lo hi e v xs) (hb : Below B w w') (hB : hi ≤ B) : Rw w' lo hi e v xs :=
  ⟨ownsRow_below h.1 hb (fun k hk => Nat.lt_of_lt_of_le (h.2 k hk) hB), h.2⟩

/-- What a row of the call's own reads as. -/
theorem Rw.strs {w : World} {lo hi : Nat} {v : Value} {ss : List ByteArray} (h : Rw w lo hi 9 v (ss.map Value.string)) : ∃ a c, v = .slice a ss.length c ∧ RdS w a ss ∧ ss.length ≤ maxLen := by
  have hl : (ss.map Value.string).length = ss.length := by simp
  rcases h.1.2 with ⟨rfl, h0⟩ | ⟨g, cap, cur, rfl, hg, hh, hn, hm, hsz, htake⟩
  · rw [hl] at h0
    obtain rfl : ss = [] := List.eq_nil_of_length_eq_zero h0
    exact ⟨none, 0, rfl, fun i hi => absurd hi (Nat.not_lt_zero _), Nat.zero_le _⟩
  · rw [hl] at hn ⊢
    refine ⟨some ⟨g, 0, none⟩, cap, rfl, fun i hi => ⟨g, 0, rfl, ?_⟩, by omega⟩
    have hown := h.1
    have hc := hown.cellAt i (by rw [hl]; omega)
    rw [Nat.zero_add, hc]
    simp [hi]

theorem Rw.bools {w : World} {lo hi : Nat} {v : Value} {ss : List Bool} (h : Rw w lo hi 4 v (ss.map Value.bool)) : ∃ a c, v = .slice a ss.length c ∧ RdB w a ss ∧ ss.length ≤ maxLen := by
  have hl : (ss.map Value.bool).length = ss.length := by simp
  rcases h.1.2 with ⟨rfl, h0⟩ | ⟨g, cap, cur, rfl, hg, hh, hn, hm, hsz, htake⟩
  · rw [hl] at h0
    obtain rfl : ss = [] := List.eq_nil_of_length_eq_zero h0
    exact ⟨none, 0, rfl, fun i hi => absurd hi (Nat.not_lt_zero _), Nat.zero_le _⟩
  · rw [hl] at hn ⊢
    refine ⟨some ⟨g, 0, none⟩, cap, rfl, fun i hi => ⟨g, 0, rfl, ?_⟩, by omega⟩
    have hown := h.1
    have hc := hown.cellAt i (by rw [hl]; omega)
    rw [Nat.zero_add, hc]
    simp [hi]

/-- The clone, from a value that reads as ss: nil or not. -/
theorem cloneS_any (a : Option Addr) (c : Nat) (s : List ByteArray) (w : World) (hn : a = none → c = 0) (h0 : RdS w a s) (l0 : s.length ≤ 1048576) :
    Calls Try.prog 7 #[.slice a s.length c] w (RetRow w 9 (s.map Value.string)) := by
  cases a with
  | some a => exact cloneS_some a c s w h0 l0
  | none =>
    obtain rfl := hn rfl
    rcases Nat.eq_zero_or_pos s.length with h | h
    · obtain rfl : s = [] := List.eq_nil_of_length_eq_zero h
      exact cloneS_none w
    · obtain ⟨b, o, h', _⟩ := h0 0 h
      cases h'

theorem cloneB_any (a : Option Addr) (c : Nat) (s : List Bool) (w : World) (hn : a = none → c = 0) (h0 : RdB w a s) (l0 : s.length ≤ 1048576) :
    Calls Try.prog 8 #[.slice a s.length c] w (RetRow w 4 (s.map Value.bool)) := by
  cases a with
  | some a => exact cloneB_some a c s w h0 l0
  | none =>
    obtain rfl := hn rfl
    rcases Nat.eq_zero_or_pos s.length with h | h
    · obtain rfl : s = [] := List.eq_nil_of_length_eq_zero h
      exact cloneB_none w
    · obtain ⟨b, o, h', _⟩ := h0 0 h
      cases h'

/-- The column set behind the pointer to block p: the names ss, n values; all its blocks from base on. -/
def Cols (w : World) (base p : Nat) (ss : List ByteArray) (n : Nat) : Prop :=
  ∃ v1 v2 vs, base ≤ p ∧ w.heap[p]? = some (.cells #[v1, v2] 47 (0, 0)) ∧ w.ownsRow base 9 1 v1 ss.length (ss.map Value.string) ∧ w.ownsRow base 20 1 v2 n vs

theorem Cols.keep {w w' : World} {B base p : Nat} {ss : List ByteArray} {n : Nat} (h : Cols w base p ss n) (hb : Below B w w') (hB : w.heap.size ≤ B) : Cols w' base p ss n := by
  obtain ⟨v1, v2, vs, h1, h2, h3, h4⟩ := h
  have lt := lt_of_block h2
  exact ⟨v1, v2, vs, h1, by rw [hb.block p (by omega)]; exact h2, ownsRow_below h3 hb (fun k hk => by have := h3.lt k hk; omega), ownsRow_below h4 hb (fun k hk => by have := h4.lt k hk; omega)⟩

/-- It returns nil, one column more. -/
def RetApp (w : World) (base p : Nat) (ss : List ByteArray) (n : Nat) (e : Ending) (w' : World) : Prop := e = .returned .nilIface ∧ Cols w' base p ss n ∧ Below base w w'

theorem own_ne {w : World} {lo : Nat} {e : TypeId} {size : Nat} {v : Value} {n : Nat} {xs : List Value} {p : Nat} {cs : Array Value} {t : TypeId} {fr : Nat × Nat} (h : w.ownsRow lo e size v n xs) (hp : w.heap[p]? = some (.cells cs t fr)) (ht : t ≠ e) : v.ownBlock ≠ some p := by
  intro hv
  rcases h.2 with ⟨rfl, _⟩ | ⟨g, cap, cur, rfl, hg, hh, rest⟩
  · simp [Value.ownBlock] at hv
  · simp only [Value.ownBlock, Option.some.injEq] at hv
    subst hv
    rw [hh] at hp
    simp only [Option.some.injEq, Obj.cells.injEq] at hp
    exact ht hp.2.1.symm

theorem own_ne_lt {w : World} {lo : Nat} {e : TypeId} {size : Nat} {v : Value} {n : Nat} {xs : List Value} {p : Nat} (h : w.ownsRow lo e size v n xs) (hp : p < lo) : v.ownBlock ≠ some p := by
  intro hv
  have := (h.lt p hv).1
  omega

theorem own_shape {w : World} {lo : Nat} {e : TypeId} {size : Nat} {v : Value} {n : Nat} {xs : List Value} (h : w.ownsRow lo e size v n xs) : ∃ a c, v = .slice a n c := by
  rcases h.2 with ⟨rfl, rfl⟩ | ⟨g, cap, cur, rfl, hg, hh, rest⟩
  · exact ⟨none, 0, rfl⟩
  · exact ⟨_, cap, rfl⟩

theorem own_apart {w : World} {lo lo' : Nat} {e e' : TypeId} {size size' : Nat} {v v' : Value} {n n' : Nat} {xs xs' : List Value} (h : w.ownsRow lo e size v n xs) (h' : w.ownsRow lo' e' size' v' n' xs') (he : e ≠ e') : v.ownBlock = none ∨ v.ownBlock ≠ v'.ownBlock := by
  rcases h.2 with ⟨rfl, _⟩ | ⟨g, cap, cur, rfl, hg, hh, rest⟩
  · exact .inl rfl
  · exact .inr (fun hv => own_ne h' hh he hv.symm)

/-- What the state is behind 'c.names = append(c.names, name)', and behind 'c.values = append(c.values, name)'. -/
theorem step_names {w : World} {base p : Nat} {v1 v2 : Value} {n1 n2 m : Nat} {xs ys zs : List Value} (h1 : base ≤ p) (h2 : w.heap[p]? = some (.cells #[v1, v2] 47 (0, 0))) (h3 : w.ownsRow base 9 1 v1 n1 xs) (h4 : w.ownsRow base 20 1 v2 n2 ys)
    (o : Obj) {w1 : World} {v : Value} (hown : w1.ownsRow base 9 1 v m zs) (hg : (w.alloc o).drew.grownBy w1 v1.ownBlock) (hbs : base ≤ w.heap.size) :
    (w1.setCell ⟨p, 0, none⟩ v).heap[p]? = some (.cells #[v, v2] 47 (0, 0)) ∧ (w1.setCell ⟨p, 0, none⟩ v).ownsRow base 9 1 v m zs ∧ (w1.setCell ⟨p, 0, none⟩ v).ownsRow base 20 1 v2 n2 ys ∧ Below base w (w1.setCell ⟨p, 0, none⟩ v) := by
  have lp := lt_of_block h2
  have hp1 : w1.heap[p]? = some (.cells #[v1, v2] 47 (0, 0)) := by
    rw [hg.block p (by simp; omega) (Ne.symm (own_ne h3 h2 (by decide)))]
    show (w.alloc o).heap[p]? = _
    rw [Below.heap_alloc w o p lp]; exact h2
  have h4' : w1.ownsRow base 20 1 v2 n2 ys := ((h4.alloc o).drew).kept hg (own_apart h4 h3 (by decide))
  have hb1 : Below base w w1 := (((Below.refl base w).alloc hbs o).drew).grown hg (by simp; omega) (fun k hk => (h3.lt k hk).1)
  refine ⟨?_, ownsRow_setCell_other hown (own_ne hown hp1 (by decide)) _, ownsRow_setCell_other h4' (own_ne h4' hp1 (by decide)) _, hb1.setCell h1 _⟩
  rw [heap_setCell_same w1 p 0 _ _ _ hp1]
  rfl

theorem step_values {w : World} {base p : Nat} {v1 v2 : Value} {n1 n2 m : Nat} {xs ys zs : List Value} (h1 : base ≤ p) (h2 : w.heap[p]? = some (.cells #[v1, v2] 47 (0, 0))) (h3 : w.ownsRow base 9 1 v1 n1 xs) (h4 : w.ownsRow base 20 1 v2 n2 ys)
    (o : Obj) {w1 : World} {v : Value} (hown : w1.ownsRow base 20 1 v m zs) (hg : (w.alloc o).drew.grownBy w1 v2.ownBlock) (hbs : base ≤ w.heap.size) :
    (w1.setCell ⟨p, 1, none⟩ v).heap[p]? = some (.cells #[v1, v] 47 (0, 0)) ∧ (w1.setCell ⟨p, 1, none⟩ v).ownsRow base 9 1 v1 n1 xs ∧ (w1.setCell ⟨p, 1, none⟩ v).ownsRow base 20 1 v m zs ∧ Below base w (w1.setCell ⟨p, 1, none⟩ v) := by
  have lp := lt_of_block h2
  have hp1 : w1.heap[p]? = some (.cells #[v1, v2] 47 (0, 0)) := by
    rw [hg.block p (by simp; omega) (Ne.symm (own_ne h4 h2 (by decide)))]
    show (w.alloc o).heap[p]? = _
    rw [Below.heap_alloc w o p lp]; exact h2
  have h3' : w1.ownsRow base 9 1 v1 n1 xs := ((h3.alloc o).drew).kept hg (own_apart h3 h4 (by decide))
  have hb1 : Below base w w1 := (((Below.refl base w).alloc hbs o).drew).grown hg (by simp; omega) (fun k hk => (h4.lt k hk).1)
  refine ⟨?_, ownsRow_setCell_other h3' (own_ne h3' hp1 (by decide)) _, ownsRow_setCell_other hown (own_ne hown hp1 (by decide)) _, hb1.setCell h1 _⟩
  rw [heap_setCell_same w1 p 1 _ _ _ hp1]
  rfl

set_option maxRecDepth 100000 in
set_option maxHeartbeats 1000000 in
theorem app24 (base p b : Nat) (ss : List ByteArray) (n : Nat) (s : ByteArray) (w : World) (hC : Cols w base p ss n) (hB : w.heap[b]? = some (.cells #[.string s] 9 (0, 0))) (hb : b < base)
    (hbs : base ≤ w.heap.size) (ls : ss.length ≤ 4194304) (ln : n ≤ 4194304) :
    Calls Try.prog 24 #[.pointer (some ⟨p, 0, none⟩), .pointer (some ⟨b, 0, none⟩)] w (RetApp w base p (ss ++ [s]) (n + 1)) := by
  obtain ⟨v1, v2, vs, h1, h2, h3, h4⟩ := hC
  obtain ⟨i9, hi9, hz90, hz91, hz92⟩ := info_parts Try.info9
  obtain ⟨i20, hi20, hz200, hz201, hz202⟩ := info_parts Try.info20
  have ne1 : v1.ownBlock ≠ some p := own_ne h3 h2 (by decide)
  have ne2 : v2.ownBlock ≠ some p := own_ne h4 h2 (by decide)
  have lp : p < w.heap.size := lt_of_block h2
  obtain ⟨a1, k1, rfl⟩ := own_shape h3
  obtain ⟨a2, k2, rfl⟩ := own_shape h4
  have c1 : w.cell? ⟨p, 0, none⟩ = some (.slice a1 ss.length k1) := by simp [World.cell?, h2]
  have cb : w.cell? ⟨b, 0, none⟩ = some (.string s) := by simp [World.cell?, hB]
  have f1 : w.frozen? ⟨p, 0, none⟩ = false := by simp [World.frozen?, h2]
  have T1 : Hid (∀ (o : Obj) (w1 : World), (w.alloc o).drew.grownBy w1 (Value.slice a1 ss.length k1).ownBlock → w1.cell? ⟨p, 0, none⟩ = some (.slice a1 ss.length k1) ∧ w1.frozen? ⟨p, 0, none⟩ = false) := by
    intro o w1 hg
    have hb' : Below w.heap.size w (w.alloc o).drew := ((Below.refl _ w).alloc (Nat.le_refl _) o).drew
    exact ⟨(hg.cell_far _ (by simp; omega) (Ne.symm ne1)).trans ((hb'.cell lp).trans c1), (hg.frozen_far _ (by simp; omega) (Ne.symm ne1)).trans ((hb'.frozen lp).trans f1)⟩
  go_enter Try.func24, Try.ntmps24
  go_wp2_with fail
  go_region_law ((refine step_append_lies _ (by rfl) _ _ _ (by rfl) base 9 i9 _ 1 16 Try.underlying22 hi9 hz90 hz91 hz92 rfl (by omega) (.slice a1 ss.length k1) ss.length (ss.map Value.string) (by rfl) ((h3.alloc _).drew) ⟨w.heap.size, 0, none⟩ 1 1 [.string s] (by rfl) (by rfl) (World.news_of_block (cs := #[.string s]) (t := 9) (fr := (0, 0)) (heap_alloc_new w _)) (by simp [Value.oneCell']) (by omega) (by unfold maxLen; omega) (by omega) (by simp; omega) (w.heap.size + 1) (by simp) ?_; intro gg cap w1 hown1 hgrow hat hlt; obtain ⟨d1, d2⟩ := T1.out _ _ hgrow))
  all_goals
    have M := step_names h1 h2 h3 h4 _ hown1 hgrow hbs
    obtain ⟨W, HW⟩ : ∃ W, W = w1.setCell ⟨p, 0, none⟩ (.slice (some ⟨gg, 0, none⟩) (ss.length + 1) cap) := ⟨_, rfl⟩
    rw [← HW] at M ⊢
    clear HW hown1 hgrow hat hlt d1 d2 T1 c1 cb f1
    obtain ⟨m2, m3, m4, mb⟩ := M
    have lpW := lt_of_block m2
    have nW2 : (Value.slice a2 n k2).ownBlock ≠ some p := own_ne m4 m2 (by decide)
    have hbW := hbs
    have c2 : W.cell? ⟨p, 1, none⟩ = some (.slice a2 n k2) := by simp [World.cell?, m2]
    have mB : W.heap[b]? = some (.cells #[.string s] 9 (0, 0)) := (mb.block b hb).trans hB
    have cb : W.cell? ⟨b, 0, none⟩ = some (.string s) := by simp [World.cell?, mB]
    have f2 : W.frozen? ⟨p, 1, none⟩ = false := by simp [World.frozen?, m2]
    have T2 : Hid (∀ (o : Obj) (w1 : World), (W.alloc o).drew.grownBy w1 (Value.slice a2 n k2).ownBlock → w1.cell? ⟨p, 1, none⟩ = some (.slice a2 n k2) ∧ w1.frozen? ⟨p, 1, none⟩ = false) := by
      intro o w1 hg
      have hb' : Below W.heap.size W (W.alloc o).drew := ((Below.refl _ W).alloc (Nat.le_refl _) o).drew
      exact ⟨(hg.cell_far _ (by simp; omega) (Ne.symm nW2)).trans ((hb'.cell lpW).trans c2), (hg.frozen_far _ (by simp; omega) (Ne.symm nW2)).trans ((hb'.frozen lpW).trans f2)⟩
    have hsW : base ≤ W.heap.size := by have := mb.size; omega
    go_wp2_with fail
    go_region_law ((refine step_append_lies _ (by rfl) _ _ _ (by rfl) base 20 i20 _ 1 16 Try.underlying45 hi20 hz200 hz201 hz202 rfl (by omega) (.slice a2 n k2) n vs (by rfl) ((m4.alloc _).drew) ⟨W.heap.size, 0, none⟩ 1 1 [.iface 9 (.string s)] (by rfl) (by rfl) (World.news_of_block (cs := #[.iface 9 (.string s)]) (t := 20) (fr := (0, 0)) (heap_alloc_new W _)) (by simp [Value.oneCell']) (by omega) (by unfold maxLen; omega) (by omega) (by simp; omega) (W.heap.size + 1) (by simp) ?_; intro gg2 cap2 w2 hown2 hgrow2 hat2 hlt2; obtain ⟨d1, d2⟩ := T2.out _ _ hgrow2))
  all_goals
    have M2 := step_values h1 m2 m3 m4 _ hown2 hgrow2 hsW
    obtain ⟨W2, HW2⟩ : ∃ W2, W2 = w2.setCell ⟨p, 1, none⟩ (.slice (some ⟨gg2, 0, none⟩) (n + 1) cap2) := ⟨_, rfl⟩
    rw [← HW2] at M2 ⊢
    obtain ⟨r2, r3, r4, rb⟩ := M2
    clear HW2 hown2 hgrow2 hat2 hlt2 d1 d2 T2 m2 m3 m4
    go_wp2
    go_ret
    exact ⟨rfl, ⟨_, _, _, h1, r2, by simpa using r3, r4⟩, mb.trans rb⟩

end Go.Proofs.Qxb6625432a
