import Derived.Test.Qxb6625633aV3
import Derived.Deep.RegionLaw
namespace Go.Proofs.Qxb6625633a
open Go.RowKit
set_option linter.unusedVariables false

/-- The blocks of F are as they were. -/
structure Keep (F : Nat → Prop) (w w' : World) : Prop where
  os : w'.os = w.os
  tape : w'.tape = w.tape
  output : w'.output = w.output
  size : w.heap.size ≤ w'.heap.size
  block : ∀ k, F k → w'.heap[k]? = w.heap[k]?

theorem Keep.refl (F : Nat → Prop) (w : World) : Keep F w w := ⟨rfl, rfl, rfl, Nat.le_refl _, fun _ _ => rfl⟩
theorem Keep.trans {F : Nat → Prop} {a b c : World} (h : Keep F a b) (k : Keep F b c) : Keep F a c :=
  ⟨k.os.trans h.os, k.tape.trans h.tape, k.output.trans h.output, Nat.le_trans h.size k.size, fun i hi => (k.block i hi).trans (h.block i hi)⟩
theorem Keep.drewN {F : Nat → Prop} {a w : World} (h : Keep F a w) (n : Nat) : Keep F a (w.drewN n) := h.trans ⟨rfl, rfl, rfl, Nat.le_refl _, fun _ _ => rfl⟩
theorem Keep.drew {F : Nat → Prop} {a w : World} (h : Keep F a w) : Keep F a w.drew := h.trans ⟨rfl, rfl, rfl, Nat.le_refl _, fun _ _ => rfl⟩
theorem Keep.alloc {F : Nat → Prop} {a w : World} (h : Keep F a w) (hF : ∀ k, F k → k < w.heap.size) (o : Obj) : Keep F a (w.alloc o) :=
  h.trans ⟨rfl, rfl, rfl, by simp, fun k hk => Below.heap_alloc _ _ _ (hF k hk)⟩
theorem Keep.setCell {F : Nat → Prop} {a w : World} (h : Keep F a w) {p : Addr} (hp : ¬ F p.block) (u : Value) : Keep F a (w.setCell p u) :=
  h.trans ⟨rfl, rfl, rfl, by simp [World.setCell], fun k hk => Below.heap_setCell _ _ _ _ (fun e => hp (e ▸ hk))⟩
theorem Keep.below {F : Nat → Prop} {B : Nat} {a w w' : World} (h : Below B a w) (hF : ∀ k, k < B → F k) (hk : Keep F w w') : Below B a w' :=
  h.trans ⟨hk.os, hk.tape, hk.output, hk.size, fun k hk' => hk.block k (hF k hk')⟩

/-- The tag column: nil where all are 0, else a row of its own, outside F. -/
def Tags (F : Nat → Prop) (w : World) (tv : Value) (ts : List Int) : Prop :=
  (tv = .slice none 0 0 ∧ az ts = true) ∨ (az ts = false ∧ ∃ g cap, tv = .slice (some ⟨g, 0, none⟩) ts.length cap ∧ w.ownsRow 0 23 1 (.slice (some ⟨g, 0, none⟩) ts.length cap) ts.length (ts.map (Value.int .u64)) ∧ ¬ F g)

/-- A set of one leaf: its keys zs, its tags ts. -/
structure SetOk (F : Nat → Prop) (w : World) (sb nb : Nat) (ka : Option Addr) (zs ts : List Int) (tv : Value) : Prop where
  lt : ∀ k, F k → k < w.heap.size
  nF : ¬ F nb
  sF : F sb
  root : RootIs w sb (some ⟨nb, 0, none⟩)
  node : NodeIs w nb ka zs.length tv
  tags : Tags F w tv ts
  len : ts.length = zs.length
  kF : ∀ b o, ka = some ⟨b, o, none⟩ → F b
  rd : RdU w ka zs

theorem RdU.keepF {F : Nat → Prop} {w w' : World} {ka : Option Addr} {zs : List Int} (h : RdU w ka zs) (hF : ∀ b o, ka = some ⟨b, o, none⟩ → F b) (hk : Keep F w w') : RdU w' ka zs := fun i hi => by
  obtain ⟨b, o, e1, hc⟩ := h i hi
  exact ⟨b, o, e1, (World.cell?_of_block (a := ⟨b, o + i, none⟩) (hk.block b (hF b o e1))).trans hc⟩

theorem row_rd {w : World} {lo : Nat} {g cap : Nat} {ts : List Int} (h : w.ownsRow lo 23 1 (.slice (some ⟨g, 0, none⟩) ts.length cap) ts.length (ts.map (Value.int .u64))) : RdU w (some ⟨g, 0, none⟩) ts := fun i hi => by
  refine ⟨g, 0, rfl, ?_⟩
  rw [Nat.zero_add, h.cellAt i (by omega)]
  simp [hi]

theorem az_zero {ts : List Int} (h : az ts = true) (i : Nat) : ts.getD i 0 = 0 := by
  unfold az at h
  rw [List.all_eq_true] at h
  by_cases hi : i < ts.length
  · have := h ts[i] (List.getElem_mem _)
    simp [hi] at this ⊢
    exact this
  · simp [List.getElem?_eq_none (Nat.le_of_not_lt hi)]

theorem at19 (F : Nat → Prop) (tv : Value) (ts : List Int) (i : Nat) (w : World) (h : Tags F w tv ts) (hi : i < ts.length) (l : ts.length ≤ 1048576) :
    Calls Try.prog 19 #[tv, .int .i64 i] w (RetV w (.int .u64 (ts.getD i 0))) := by
  have kn := fun w a n c => Lib.run_eql_slice_nil (P := Try.prog) w 42 23 a n c 0 0 Try.underlying42
  rcases h with ⟨rfl, hz⟩ | ⟨hz, g, cap, rfl, hown, _⟩
  · have hz0 := az_zero hz i
    go_enter Try.func19, Try.ntmps19
    go_wp2
    go_ret
    exact ⟨by rw [hz0]; rfl, rfl⟩
  · obtain ⟨b, o, x, e1, hc, Hx⟩ := (row_rd hown).get i hi
    cases e1
    rw [Nat.zero_add] at hc
    go_enter Try.func19, Try.ntmps19
    go_wp2
    go_ret
    exact ⟨by rw [Hx.out]; rfl, rfl⟩

/-- It returns the column as it was, or a new one of zeros. -/
def RetZ (w : World) (tv : Value) (ts : List Int) (e : Ending) (w' : World) : Prop :=
  ∃ g cap, e = .returned (.slice (some ⟨g, 0, none⟩) ts.length cap) ∧ w'.ownsRow 0 23 1 (.slice (some ⟨g, 0, none⟩) ts.length cap) ts.length (ts.map (Value.int .u64)) ∧ w.grownBy w' none ∧ (tv = .slice (some ⟨g, 0, none⟩) ts.length cap ∨ w.heap.size ≤ g)

theorem az_replicate {ts : List Int} (h : az ts = true) : ts = List.replicate ts.length 0 := by
  apply List.eq_replicate_of_mem
  unfold az at h
  rw [List.all_eq_true] at h
  intro b hb
  simpa using h b hb

theorem orz20 (F : Nat → Prop) (tv : Value) (ts : List Int) (w : World) (h : Tags F w tv ts) (l : ts.length ≤ 1048576) :
    Calls Try.prog 20 #[tv, .int .i64 ts.length, .int .i64 ts.length] w (RetZ w tv ts) := by
  obtain ⟨i0, hi, hz0, hz1, hz2⟩ := info_parts Try.info23
  have kn := fun w a n c => run_neq_slice_nil_any (P := Try.prog) w 42 23 a n c 0 0 Try.underlying42
  rcases h with ⟨rfl, hz⟩ | ⟨hz, g, cap, rfl, hown, _⟩
  · have hr := az_replicate hz
    have HR : Hid (ts.map (Value.int .u64) = List.replicate ts.length (.int .u64 0)) := by
      show _ = _
      rw [hr]; simp
    clear hr
    go_enter Try.func20, Try.ntmps20
    go_wp2_with (at_make; refine wpList_make_full _ rfl _ _ 42 rfl 0 23 i0 (.int .u64 0) 1 Try.underlying42 hi hz0 hz1 _ _ _ _ ts.length rfl rfl rfl rfl (by rw [hz2]; omega) (by unfold maxLen; omega) (Nat.zero_le _) ?_)
    intro w1 hown1 hgrow1
    rw [toList_madeCells_one, ← HR.out] at hown1
    go_wp2
    go_ret
    exact ⟨w.heap.size, ts.length, rfl, hown1, hgrow1, .inr (Nat.le_refl _)⟩
  · go_enter Try.func20, Try.ntmps20
    go_wp2
    go_ret
    exact ⟨g, cap, rfl, hown, World.grownBy.refl _ _, .inl rfl⟩

set_option maxHeartbeats 400000 in
theorem trim21 (g cap : Nat) (ts : List Int) (w : World) (h : RdU w (some ⟨g, 0, none⟩) ts) (l : ts.length ≤ 1048576) :
    Calls Try.prog 21 #[.slice (some ⟨g, 0, none⟩) ts.length cap] w (RetV w (if az ts = true then .slice none 0 0 else .slice (some ⟨g, 0, none⟩) ts.length cap)) := by
  obtain ⟨R, HR⟩ : ∃ R, R = (if az ts = true then Value.slice none 0 0 else .slice (some ⟨g, 0, none⟩) ts.length cap) := ⟨_, rfl⟩
  rw [← HR]
  have HR' : Hid (R = (if az ts = true then Value.slice none 0 0 else .slice (some ⟨g, 0, none⟩) ts.length cap)) := HR
  clear HR
  go_enter Try.func21, Try.ntmps21
  go_wp2
  go_loop [4, 7] (fun _ i => ∃ k : Nat, k ≤ ts.length ∧ i = .int .i64 k ∧ Hid (∀ i, i < k → ts.getD i 0 = 0)) (fun _ i => ts.length - (intOf i).toNat)
  case atStart => exact ⟨0, Nat.zero_le _, rfl, fun i hi => absurd hi (Nat.not_lt_zero _)⟩
  case round =>
    obtain ⟨k, hk, rfl, H⟩ := hrel
    by_cases hlt : k < ts.length
    · obtain ⟨b, o, x, e1, hc1, Hx⟩ := h.get k hlt
      cases e1
      rw [Nat.zero_add] at hc1
      by_cases hy : x = 0
      · subst hy
        go_wp2
        go_round
        case rel =>
          refine ⟨k + 1, by omega, by go_num, fun i hi => ?_⟩
          rcases Nat.lt_or_ge i k with h' | h'
          · exact H.out i h'
          · rw [show i = k by omega]; exact Hx.out
        case measure => simp [intOf]; omega
      · have hz := az_false hlt (by rw [Hx.out]; exact hy)
        have HZ : Hid (az ts = false) := hz
        have hy' : (x != 0) = true := by simpa using hy
        clear hy hz
        go_wp2
        go_ret
        exact ⟨by rw [HR'.out, HZ.out]; rfl, rfl⟩
    · have HZ : Hid (az ts = true) := az_true (zs := ts) (fun i hi => H.out i (by omega))
      go_wp2
      go_ret
      exact ⟨by rw [HR'.out, HZ.out]; rfl, rfl⟩

end Go.Proofs.Qxb6625633a
