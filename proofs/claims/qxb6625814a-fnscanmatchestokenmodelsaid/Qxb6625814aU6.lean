import Derived.Test.Qxb6625814aU4
import Derived.Deep.QuietTactic
import Derived.BigQuiet
namespace Go.Proofs.Qxb6625814a
open Go.RowKit
set_option linter.unusedVariables false

/-- It returns a bool of which p holds; the world stands. -/
def RetB (w : World) (p : Bool → Prop) (e : Ending) (w' : World) : Prop := ∃ b : Bool, e = .returned (.bool b) ∧ w = w' ∧ p b
theorem RetB.no {w : World} {p : Bool → Prop} (h : p false) : RetB w p (.returned (.bool false)) w := ⟨false, rfl, rfl, h⟩
theorem RetB.yes {w : World} {p : Bool → Prop} (h : p true) : RetB w p (.returned (.bool true)) w := ⟨true, rfl, rfl, h⟩

theorem bytes5 (x0 x1 x2 x4 x6 : Value) (s t : ByteArray) (w : World) (h0 : s.size ≤ maxLen) (h1 : t.size ≤ maxLen) :
    Calls Try.prog 5 #[x0, x1, x2, .string s, x4, .string t, x6] w (RetB w (fun b => b = true → s.size + t.size ≤ 1048576)) := by
  unfold maxLen at h0 h1
  by_cases g : s.size ≤ 1048576 ∧ t.size ≤ 1048576 ∧ s.size + t.size ≤ 1048576
  · obtain ⟨g0, g1, g2⟩ := g
    go_enter Try.func5, Try.ntmps5
    go_wp2
    go_ret
    exact .yes (fun _ => g2)
  · go_enter Try.func5, Try.ntmps5
    go_wp2
    all_goals go_ret
    all_goals first | exact .no (by simp) | exact .yes (fun _ => by omega)

theorem bytes12 (x0 x1 x2 x4 x6 : Value) (s t : ByteArray) (w : World) (h0 : s.size ≤ maxLen) (h1 : t.size ≤ maxLen) :
    Calls Try.prog 12 #[x0, x1, x2, .string s, x4, .string t, x6] w (RetB w (fun b => b = true → s.size + t.size ≤ 1048576)) := by
  unfold maxLen at h0 h1
  by_cases g : s.size ≤ 1048576 ∧ t.size ≤ 1048576 ∧ s.size + t.size ≤ 1048576
  · obtain ⟨g0, g1, g2⟩ := g
    go_enter Try.func12, Try.ntmps12
    go_wp2
    go_ret
    exact .yes (fun _ => g2)
  · go_enter Try.func12, Try.ntmps12
    go_wp2
    all_goals go_ret
    all_goals first | exact .no (by simp) | exact .yes (fun _ => by omega)

/-- A quote's byte. -/
def isQ (c : UInt8) : Bool := c == 39 || c == 34 || c == 96

theorem isq6 (c : UInt8) (w : World) : Calls Try.prog 6 #[.int .u8 (c.toNat : Int)] w (RetV w (.bool (isQ c))) := by
  by_cases h39 : c = 39
  · subst h39
    go_enter Try.func6, Try.ntmps6
    go_wp2
    go_ret
    exact ⟨rfl, rfl⟩
  by_cases h34 : c = 34
  · subst h34
    go_enter Try.func6, Try.ntmps6
    go_wp2
    go_ret
    exact ⟨rfl, rfl⟩
  by_cases h96 : c = 96
  · subst h96
    go_enter Try.func6, Try.ntmps6
    go_wp2
    go_ret
    exact ⟨rfl, rfl⟩
  have e : isQ c = false := by simp [isQ, h39, h34, h96]
  have t39 : ((c.toNat : Int) == 39) = false := b_no h39
  have t34 : ((c.toNat : Int) == 34) = false := b_no h34
  have t96 : ((c.toNat : Int) == 96) = false := b_no h96
  clear h39 h34 h96
  rw [e]
  clear e
  go_enter Try.func6, Try.ntmps6
  go_wp2
  go_ret
  exact ⟨rfl, rfl⟩

/-- A new scanner. -/
def RetNew (w : World) (s : Sc) (e : Ending) (w' : World) : Prop := ∃ p, e = .returned (.pointer (some ⟨p, 0, none⟩)) ∧ Sco w' w.heap.size p s ∧ Below w.heap.size w w'

theorem new8 (st : Nat) (q : UInt8) (op : Int) (text : ByteArray) (sn : Int) (w : World) (hl : text.size ≤ 2097152) :
    Calls Try.prog 8 #[.int .u8 (st : Int), .int .u8 (q.toNat : Int), .int .i64 op, .string text, .int .i64 sn] w (RetNew w ⟨st, q, op, text.data.toList, sn, []⟩) := by
  have hS : ScIs (w.alloc (.cells #[.int .u8 (st : Int), .int .u8 (q.toNat : Int), .int .i64 op, .pointer none, .slice none 0 0, .int .i64 sn] 44)) w.heap.size w.heap.size st q op [] sn :=
    ⟨Nat.le_refl _, _, _, heap_alloc_new w _, .inl rfl, World.ownsRow_nil _ _ _ _⟩
  go_enter Try.func8, Try.ntmps8
  go_wp2_with fail
  refine (wstr16 w.heap.size w.heap.size st q op [] sn text _ hS (by simp; omega) (by simp)).mono ?_
  rintro e w1 ⟨rfl, hs1, hb1, _⟩
  go_wp2
  go_ret
  exact ⟨w.heap.size, rfl, hs1, ((Below.refl _ w).alloc (Nat.le_refl _) _).trans hb1⟩

theorem results_tmp5 {fn : Func} {t u v x y : Tmp} (h : fn.results = #[.tmp t, .tmp u, .tmp v, .tmp x, .tmp y]) (tmps : Array Value) (P : Program) (w : World) :
    (results fn tmps).run P w = .ok (.tuple #[tmps.getD t undef, tmps.getD u undef, tmps.getD v undef, tmps.getD x undef, tmps.getD y undef]) w := by
  simp [results, h]

/-- The scanner's fields. -/
def RetF (w : World) (B p : Nat) (st : Nat) (q : UInt8) (op : Int) (l : List UInt8) (sn : Int) (e : Ending) (w' : World) : Prop :=
  e = .returned (.tuple #[.int .u8 (st : Int), .int .u8 (q.toNat : Int), .int .i64 op, .string ⟨l.toArray⟩, .int .i64 sn]) ∧ Below B w w' ∧ Oth p w w'

set_option maxRecDepth 100000 in
set_option maxHeartbeats 1000000 in
theorem fields10 (B p st : Nat) (q : UInt8) (op : Int) (l : List UInt8) (sn : Int) (w : World) (h : ScIs w B p st q op l sn) (h0 : l ≠ []) (hl : l.length ≤ 4194304) :
    Calls Try.prog 10 #[.pointer (some ⟨p, 0, none⟩)] w (RetF w B p st q op l sn) := by
  obtain ⟨c0, c1, c2, c5, _, lp⟩ := sc_cells h
  have hd : ScIs w.drew B p st q op l sn := h
  go_enter Try.func10, Try.ntmps10
  go_wp2_with fail
  go_region_held3 (fun w' => w'.cell? ⟨p, 0, none⟩ = some (.int .u8 (st : Int)) ∧ w'.cell? ⟨p, 1, none⟩ = some (.int .u8 (q.toNat : Int)) ∧ w'.cell? ⟨p, 2, none⟩ = some (.int .i64 op) ∧ w'.cell? ⟨p, 5, none⟩ = some (.int .i64 sn))
    (first | go_keep | exact hq)
    (first | (go_at_call 18; refine (str18 B p st q op l sn w.drew hd h0 hl).mono ?_; rintro e wq ⟨rfl, ⟨apq, vq, hbq⟩, hbelq, hothq⟩; have hq : wq.cell? ⟨p, 0, none⟩ = some (.int .u8 (st : Int)) ∧ wq.cell? ⟨p, 1, none⟩ = some (.int .u8 (q.toNat : Int)) ∧ wq.cell? ⟨p, 2, none⟩ = some (.int .i64 op) ∧ wq.cell? ⟨p, 5, none⟩ = some (.int .i64 sn) := ⟨(blk_cells hbq).1, (blk_cells hbq).2.1, (blk_cells hbq).2.2.1, (blk_cells hbq).2.2.2.2.2⟩))
  all_goals
    go_wp2
    refine bodyPost_ret (results_tmp5 rfl _ _ _) rfl ?_
    exact ⟨rfl, ((Below.refl B w).drew).trans hbelq, ((Oth.refl p w).drew).trans hothq⟩

/-- The slice value v reads as the statements out; it is nil where there are none. -/
def RdSt (w : World) (v : Value) (out : List (Int × List UInt8)) : Prop :=
  (out = [] ∧ v = .slice none 0 0) ∨ (out ≠ [] ∧ ∃ g c, v = .slice (some ⟨g, 0, none⟩) out.length c ∧ ∀ i, i < out.length → w.cell? ⟨g, i * 2, none⟩ = some (.int .i64 (out.getD i (0, [])).1) ∧ w.cell? ⟨g, i * 2 + 1, none⟩ = some (.string ⟨(out.getD i (0, [])).2.toArray⟩))

theorem same_nil (w : World) : Calls Try.prog 11 #[.slice none 0 0, .slice none 0 0] w fun e w' => e = .returned (.bool true) ∧ w = w' := by
  have kn := fun w a n c => Lib.run_eql_slice_nil (P := Try.prog) w 24 34 a n c 0 0 Try.underlying24
  go_enter Try.func11, Try.ntmps11
  go_wp2
  refine wp_loop_rounds 1 ?_
  rw [rounds_succ]
  go_wp2
  go_ret
  exact ⟨rfl, rfl⟩

def RetD (w : World) (v : Value) (e : Ending) (w' : World) : Prop := e = .returned v ∧ ∃ n, w.drewN n = w'

set_option maxHeartbeats 1000000 in
theorem same_some (g g' c c' : Nat) (out : List (Int × List UInt8)) (w : World) (hl : out.length ≤ 4194304)
    (h0 : ∀ i, i < out.length → w.cell? ⟨g, i * 2, none⟩ = some (.int .i64 (out.getD i (0, [])).1) ∧ w.cell? ⟨g, i * 2 + 1, none⟩ = some (.string ⟨(out.getD i (0, [])).2.toArray⟩))
    (h1 : ∀ i, i < out.length → w.cell? ⟨g', i * 2, none⟩ = some (.int .i64 (out.getD i (0, [])).1) ∧ w.cell? ⟨g', i * 2 + 1, none⟩ = some (.string ⟨(out.getD i (0, [])).2.toArray⟩)) :
    Calls Try.prog 11 #[.slice (some ⟨g, 0, none⟩) out.length c, .slice (some ⟨g', 0, none⟩) out.length c'] w (RetD w (.bool true)) := by
  have kn := fun w a n c => Lib.run_eql_slice_nil (P := Try.prog) w 24 34 a n c 0 0 Try.underlying24
  have H0 : Hid (∀ i, i < out.length → w.cell? ⟨g, i * 2, none⟩ = some (.int .i64 (out.getD i (0, [])).1) ∧ w.cell? ⟨g, i * 2 + 1, none⟩ = some (.string ⟨(out.getD i (0, [])).2.toArray⟩)) := h0
  have H1 : Hid (∀ i, i < out.length → w.cell? ⟨g', i * 2, none⟩ = some (.int .i64 (out.getD i (0, [])).1) ∧ w.cell? ⟨g', i * 2 + 1, none⟩ = some (.string ⟨(out.getD i (0, [])).2.toArray⟩)) := h1
  clear h0 h1
  go_enter Try.func11, Try.ntmps11
  go_wp2
  go_loopw [5] (fun i wr => ∃ k : Nat, k ≤ out.length ∧ i = .int .i64 k ∧ ∃ nq, wr = w.drewN nq) (fun i _ => out.length - (intOf i).toNat)
  case atStart => exact ⟨0, Nat.zero_le _, rfl, 0, rfl⟩
  case round =>
    obtain ⟨k, hk, rfl, n0, rfl⟩ := hrel
    by_cases hlt : k < out.length
    · obtain ⟨a1, a2⟩ := H0.out k hlt
      obtain ⟨b1, b2⟩ := H1.out k hlt
      generalize (out.getD k (0, [])).1 = x at a1 b1
      generalize (⟨(out.getD k (0, [])).2.toArray⟩ : ByteArray) = y at a2 b2
      have hi0 : (k : Int) < (out.length : Int) := by omega
      have hx : (x != x) = false := by simp
      go_wp2
      go_quiet (fail)
      go_wp2
      go_roundw
      case rel => exact ⟨k + 1, by omega, by go_num, _, rfl⟩
      case measure => simp [intOf]; omega
    · go_wp2
      go_ret
      exact ⟨rfl, n0, rfl⟩

theorem same11 (v v' : Value) (out : List (Int × List UInt8)) (w : World) (hl : out.length ≤ 4194304) (h0 : RdSt w v out) (h1 : RdSt w v' out) : Calls Try.prog 11 #[v, v'] w (RetD w (.bool true)) := by
  rcases h0 with ⟨rfl, rfl⟩ | ⟨hne, g, c, rfl, h0⟩
  · rcases h1 with ⟨_, rfl⟩ | ⟨hne, _⟩
    · refine (same_nil w).mono ?_
      rintro e w' ⟨rfl, rfl⟩
      exact ⟨rfl, 0, rfl⟩
    · exact absurd rfl hne
  · rcases h1 with ⟨rfl, _⟩ | ⟨_, g', c', rfl, h1⟩
    · exact absurd rfl hne
    · exact same_some g g' c c' out w hl h0 h1

theorem stCells_at : ∀ (out : List (Int × List UInt8)) (i : Nat), i < out.length → (stCells out)[i * 2]? = some (.int .i64 (out.getD i (0, [])).1) ∧ (stCells out)[i * 2 + 1]? = some (.string ⟨(out.getD i (0, [])).2.toArray⟩) := by
  intro out
  induction out with
  | nil => intro i hi; simp at hi
  | cons x t ih =>
    intro i hi
    have e : stCells (x :: t) = .int .i64 x.1 :: .string ⟨x.2.toArray⟩ :: stCells t := by simp [stCells]
    cases i with
    | zero => rw [e]; simp
    | succ i =>
      have h := ih i (by simp at hi; omega)
      rw [e, show (i + 1) * 2 = i * 2 + 1 + 1 by omega, show i * 2 + 1 + 1 + 1 = (i * 2 + 1) + 1 + 1 by omega]
      simp only [List.getElem?_cons_succ]
      simpa using h

theorem Stmts.rd {w : World} {B : Nat} {v : Value} {out : List (Int × List UInt8)} (h : Stmts w B v out) : RdSt w v out := by
  by_cases ho : out = []
  · exact .inl ⟨ho, h.2 ho⟩
  · refine .inr ⟨ho, ?_⟩
    rcases h.1.2 with ⟨_, h0⟩ | ⟨g, cap, cur, rfl, _⟩
    · exact absurd (List.eq_nil_of_length_eq_zero h0) ho
    · refine ⟨g, cap, rfl, fun i hi => ?_⟩
      have s := stCells_at out i hi
      rw [h.1.cellAt (i * 2) (by omega), h.1.cellAt (i * 2 + 1) (by omega)]
      exact s

theorem RdSt.keep {w w' : World} {B : Nat} {v : Value} {out : List (Int × List UInt8)} (h : RdSt w v out) (hb : Below B w w') (hB : w.heap.size ≤ B) : RdSt w' v out := by
  rcases h with h | ⟨h1, g, c, h2, h3⟩
  · exact .inl h
  · refine .inr ⟨h1, g, c, h2, fun i hi => ?_⟩
    obtain ⟨a, b⟩ := h3 i hi
    have l := World.block_lt_of_cell? w _ a
    exact ⟨(hb.cell (p := ⟨g, i * 2, none⟩) (Nat.lt_of_lt_of_le l hB)).trans a, (hb.cell (p := ⟨g, i * 2 + 1, none⟩) (Nat.lt_of_lt_of_le l hB)).trans b⟩

/-- Statements are as they were behind writes to a scanner. -/
theorem RdSt.oth {w w' : World} {p B : Nat} {v : Value} {out : List (Int × List UInt8)} {cs : Array Value} {fr : Nat × Nat} (h : Stmts w B v out) (ho : Oth p w w') (hp : w.heap[p]? = some (.cells cs 44 fr)) : RdSt w' v out := (h.keep ho hp).rd

/-- Statements lie in no row of bytes: so they are as they were behind writes to a scanner (told of readings). -/
theorem sco_keep {w w' : World} {B' B p : Nat} {s : Sc} (h : Sco w B p s) (hb : Below B' w w') (hB : w.heap.size ≤ B') : Sco w' B p s := by
  obtain ⟨h1, ap, v, h2, h3, h4⟩ := h
  have lt := lt_of_block h2
  refine ⟨h1, ap, v, ?_, h3, ⟨h4.1, ?_⟩⟩
  · unfold Blk at h2 ⊢
    rw [hb.block p (by omega)]; exact h2
  · rcases h4.2 with hn | ⟨g, cap, cur, e1, hg, hh, rest⟩
    · exact .inl hn
    · exact .inr ⟨g, cap, cur, e1, hg, by rw [hb.block g (by have := lt_of_block hh; omega)]; exact hh, rest⟩

end Go.Proofs.Qxb6625814a
