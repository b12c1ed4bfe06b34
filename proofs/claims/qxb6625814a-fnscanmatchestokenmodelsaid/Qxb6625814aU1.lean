import Derived.Test.Qxb6625814aRows
import Derived.WalkKit
import Derived.WalkSpells
import Derived.WalkLawsBesides
import Derived.Lib.Builder
import Derived.Lib.AppendStr
import Derived.Lib.UnsafeStr
import Derived.Laws.Externs
import Derived.Deep.AppendLies
namespace Go.Proofs.Qxb6625814a
open Go.RowKit
set_option linter.unusedVariables false

theorem Try.info5 : (Try.prog.info? 5).map (fun i => (i.zero, i.size, i.bytes)) = some (some (.int .u8 0), 1, 1) := by kernel_rfl
theorem Try.size42 : (Try.prog.info? 42).map (·.size) = some 2 := by kernel_rfl
theorem Try.lies42 : liesAt Try.prog Try.prog.depth 44 (6 / Try.prog.cellsOf 44) 3 42 1 = true := by kernel_rfl
theorem Try.cells5 : Try.prog.cellsOf 5 = 1 := by kernel_rfl

/-- The scanner's block. -/
def Blk (w : World) (p : Nat) (st : Nat) (q : UInt8) (op : Int) (ap v : Value) (sn : Int) : Prop :=
  w.heap[p]? = some (.cells #[.int .u8 (st : Int), .int .u8 (q.toNat : Int), .int .i64 op, ap, v, .int .i64 sn] 44 (0, 0))

/-- The scanner behind block p: its fields; its text bs; all its blocks from B on. -/
def ScIs (w : World) (B p : Nat) (st : Nat) (q : UInt8) (op : Int) (bs : List UInt8) (sn : Int) : Prop :=
  B ≤ p ∧ ∃ ap v, Blk w p st q op ap v sn ∧ (ap = .pointer none ∨ ap = .pointer (some ⟨p, 3, none⟩)) ∧ w.ownsRow B 5 1 v bs.length (Lib.byteCells bs)

/-- Every block but p that is no row of bytes is as it was. -/
structure Oth (p : Nat) (w w' : World) : Prop where
  size : w.heap.size ≤ w'.heap.size
  block : ∀ k, k < w.heap.size → k ≠ p → (∀ cs fr, w.heap[k]? ≠ some (.cells cs 5 fr)) → w'.heap[k]? = w.heap[k]?

theorem Oth.refl (p : Nat) (w : World) : Oth p w w := ⟨Nat.le_refl _, fun _ _ _ _ => rfl⟩
theorem Oth.trans {p : Nat} {a b c : World} (h : Oth p a b) (g : Oth p b c) : Oth p a c :=
  ⟨Nat.le_trans h.size g.size, fun k hk hp hn => by
    have e := h.block k hk hp hn
    rw [g.block k (Nat.lt_of_lt_of_le hk h.size) hp (by rw [e]; exact hn), e]⟩
theorem Oth.alloc {p : Nat} {a w : World} (h : Oth p a w) (o : Obj) : Oth p a (w.alloc o) := h.trans ⟨by simp, fun k hk _ _ => Below.heap_alloc _ _ _ hk⟩
theorem Oth.setCell {p j : Nat} {a w : World} (h : Oth p a w) (u : Value) : Oth p a (w.setCell ⟨p, j, none⟩ u) := h.trans ⟨by simp [World.setCell], fun k _ hp _ => Below.heap_setCell _ _ _ _ hp⟩
theorem Oth.drew {p : Nat} {a w : World} (h : Oth p a w) : Oth p a w.drew := h.trans ⟨Nat.le_refl _, fun _ _ _ _ => rfl⟩
theorem Oth.grown {p B n : Nat} {a w w' : World} {v : Value} {xs : List Value} (h : Oth p a w) (hg : w.grownBy w' v.ownBlock) (ho : w.ownsRow B 5 1 v n xs) : Oth p a w' :=
  h.trans ⟨hg.size, fun k hk _ hn => hg.block k hk (fun e => by
    rcases ho.2 with ⟨rfl, _⟩ | ⟨g, cap, cur, rfl, _, hh, _⟩
    · simp [Value.ownBlock] at e
    · simp only [Value.ownBlock, Option.some.injEq] at e
      subst e
      exact hn _ _ hh)⟩

/-- It returns nothing; the scanner is as said; below B nothing has turned. -/
def RetSc (w : World) (v : Value) (B p : Nat) (st : Nat) (q : UInt8) (op : Int) (bs : List UInt8) (sn : Int) (e : Ending) (w' : World) : Prop :=
  e = .returned v ∧ ScIs w' B p st q op bs sn ∧ Below B w w' ∧ Oth p w w'

theorem blk_cells {w : World} {p : Nat} {st : Nat} {q : UInt8} {op sn : Int} {ap v : Value} (h : Blk w p st q op ap v sn) :
    w.cell? ⟨p, 0, none⟩ = some (.int .u8 (st : Int)) ∧ w.cell? ⟨p, 1, none⟩ = some (.int .u8 (q.toNat : Int)) ∧ w.cell? ⟨p, 2, none⟩ = some (.int .i64 op) ∧ w.cell? ⟨p, 3, none⟩ = some ap ∧ w.cell? ⟨p, 4, none⟩ = some v ∧ w.cell? ⟨p, 5, none⟩ = some (.int .i64 sn) := by
  unfold Blk at h
  simp [World.cell?, h]
theorem blk_free {w : World} {p : Nat} {st : Nat} {q : UInt8} {op sn : Int} {ap v : Value} (h : Blk w p st q op ap v sn) (j : Nat) : w.frozen? ⟨p, j, none⟩ = false := by
  unfold Blk at h
  simp [World.frozen?, h]
theorem blk_lt {w : World} {p : Nat} {st : Nat} {q : UInt8} {op sn : Int} {ap v : Value} (h : Blk w p st q op ap v sn) : p < w.heap.size := lt_of_block h
theorem blk_set {w : World} {p : Nat} {st : Nat} {q : UInt8} {op sn : Int} {ap v : Value} (h : Blk w p st q op ap v sn) (j : Nat) (u : Value) :
    (w.setCell ⟨p, j, none⟩ u).heap[p]? = some (.cells (#[.int .u8 (st : Int), .int .u8 (q.toNat : Int), .int .i64 op, ap, v, .int .i64 sn].setIfInBounds j u) 44 (0, 0)) :=
  heap_setCell_same w p j _ _ _ h
theorem own_blk_ne {w : World} {p : Nat} {st : Nat} {q : UInt8} {op sn : Int} {ap v v' : Value} {B n : Nat} {xs : List Value} (h : Blk w p st q op ap v sn) (ho : w.ownsRow B 5 1 v' n xs) : v'.ownBlock ≠ some p :=
  Lib.ownBlock_ne ho h (by decide)
theorem own_shape {w : World} {lo : Nat} {e : TypeId} {size : Nat} {v : Value} {n : Nat} {xs : List Value} (h : w.ownsRow lo e size v n xs) : ∃ a c, v = .slice a n c := by
  rcases h.2 with ⟨rfl, rfl⟩ | ⟨g, cap, cur, rfl, hg, hh, rest⟩
  · exact ⟨none, 0, rfl⟩
  · exact ⟨_, cap, rfl⟩

set_option maxHeartbeats 1000000 in
set_option maxRecDepth 100000 in
theorem check_used (p : Nat) (w : World) (h0 : w.cell? ⟨p, 3, none⟩ = some (.pointer (some ⟨p, 3, none⟩))) :
    Calls Try.prog 19 #[.pointer (some ⟨p, 3, none⟩)] w fun e w' => e = .returned (.tuple #[]) ∧ w = w' := by
  obtain ⟨j, hj, _⟩ := Option.map_eq_some_iff.1 Try.size42
  go_enter Try.func19, Try.ntmps19
  go_wp2
  rw [Lib.run_neq_ptr_same w _ Try.underlying40 hj]
  go_wp2
  go_end0
  exact ⟨rfl, rfl⟩

set_option maxHeartbeats 1000000 in
set_option maxRecDepth 100000 in
theorem check_fresh (p : Nat) (w : World) (h0 : w.cell? ⟨p, 3, none⟩ = some (.pointer none)) (hsh : w.shape? p = some (44, 6)) (hfz : w.frozen? ⟨p, 3, none⟩ = false) :
    Calls Try.prog 19 #[.pointer (some ⟨p, 3, none⟩)] w fun e w' => e = .returned (.tuple #[]) ∧ w.setCell ⟨p, 3, none⟩ (.pointer (some ⟨p, 3, none⟩)) = w' := by
  obtain ⟨j, hj, hjs⟩ := Option.map_eq_some_iff.1 Try.size42
  go_enter Try.func19, Try.ntmps19
  go_wp2
  rw [Lib.run_to_unsafe w ⟨p, 3, none⟩ Try.underlying40 Try.underlying55 hj (by rw [hjs]; decide) hsh (show (3 : Nat) < 6 by decide)]
  simp only [Result.andThen]
  rw [Oper.upon_value]
  go_wp2
  rw [run_callFunc_extern Try.func24 (by kernel_rfl) (by kernel_rfl) (by kernel_rfl) (e := Extern.AbiNoEscape.same) (by kernel_rfl)]
  rw [Lib.run_noEscape]
  simp only [Result.andThen]
  rw [Oper.upon_value]
  go_wp2
  rw [Lib.run_from_unsafe w ⟨p, 3, none⟩ Try.underlying55 Try.underlying40 hj hsh Try.lies42]
  simp only [Result.andThen]
  rw [Oper.upon_value]
  go_wp2
  go_end0
  exact ⟨rfl, rfl⟩

/-- The same, 'addr' set. -/
def UsedIs (w : World) (B p : Nat) (st : Nat) (q : UInt8) (op : Int) (bs : List UInt8) (sn : Int) : Prop :=
  B ≤ p ∧ ∃ v, Blk w p st q op (.pointer (some ⟨p, 3, none⟩)) v sn ∧ w.ownsRow B 5 1 v bs.length (Lib.byteCells bs)
def RetUsed (w : World) (B p : Nat) (st : Nat) (q : UInt8) (op : Int) (bs : List UInt8) (sn : Int) (e : Ending) (w' : World) : Prop :=
  e = .returned (.tuple #[]) ∧ UsedIs w' B p st q op bs sn ∧ Below B w w' ∧ Oth p w w'

theorem check19 (B p st : Nat) (q : UInt8) (op : Int) (bs : List UInt8) (sn : Int) (w : World) (h : ScIs w B p st q op bs sn) :
    Calls Try.prog 19 #[.pointer (some ⟨p, 3, none⟩)] w (RetUsed w B p st q op bs sn) := by
  obtain ⟨hB, ap, v, hb, hap, hown⟩ := h
  rcases hap with rfl | rfl
  · have hsh : w.shape? p = some (44, 6) := by unfold Blk at hb; simp [World.shape?, hb]
    refine (check_fresh p w (blk_cells hb).2.2.2.1 hsh (blk_free hb 3)).mono ?_
    rintro e w' ⟨rfl, rfl⟩
    refine ⟨rfl, ⟨hB, v, ?_, ownsRow_setCell_other hown (own_blk_ne hb hown) _⟩, (Below.refl B w).setCell (p := ⟨p, 3, none⟩) hB _, (Oth.refl p w).setCell _⟩
    unfold Blk
    rw [blk_set hb]
    rfl
  · refine (check_used p w (blk_cells hb).2.2.2.1).mono ?_
    rintro e w' ⟨rfl, rfl⟩
    exact ⟨rfl, ⟨hB, v, hb, hown⟩, Below.refl _ _, Oth.refl _ _⟩

/-- The buffer's new value laid into 'buf'. -/
theorem used_put {w w1 : World} {B p st : Nat} {q : UInt8} {op sn : Int} {bs : List UInt8} {v v' : Value} (hB : B ≤ p) (hb : Blk w p st q op (.pointer (some ⟨p, 3, none⟩)) v sn) (h1 : w1.heap[p]? = w.heap[p]?) (ho : w1.ownsRow B 5 1 v' bs.length (Lib.byteCells bs)) :
    ScIs (w1.setCell ⟨p, 4, none⟩ v') B p st q op bs sn := by
  have hb1 : Blk w1 p st q op (.pointer (some ⟨p, 3, none⟩)) v sn := h1.trans hb
  refine ⟨hB, _, v', ?_, .inr rfl, ownsRow_setCell_other ho (own_blk_ne hb1 ho) _⟩
  unfold Blk
  rw [blk_set hb1]
  rfl

set_option maxHeartbeats 1000000 in
theorem wbyte20 (B p st : Nat) (q : UInt8) (op : Int) (bs : List UInt8) (sn : Int) (c : UInt8) (w : World) (h : ScIs w B p st q op bs sn) (hl : bs.length ≤ 4194304) (hBw : B ≤ w.heap.size) :
    Calls Try.prog 20 #[.pointer (some ⟨p, 3, none⟩), .int .u8 (c.toNat : Int)] w (RetSc w .nilIface B p st q op (bs ++ [c]) sn) := by
  obtain ⟨i0, hi, hz0, hz1, hz2⟩ := info_parts Try.info5
  go_enter Try.func20, Try.ntmps20
  go_wp2_with fail
  refine (check19 B p st q op bs sn w h).mono ?_
  rintro e w1 ⟨rfl, ⟨hB, v, hb, hown⟩, hbel, hoth⟩
  obtain ⟨a, cp, rfl⟩ := own_shape hown
  have c4 := (blk_cells hb).2.2.2.2.1
  have lp := blk_lt hb
  have ls := hbel.size
  have hne := own_blk_ne hb hown
  have T1 : Hid (∀ (o : Obj) (w2 : World), (w1.alloc o).grownBy w2 (Value.slice a bs.length cp).ownBlock → w2.cell? ⟨p, 4, none⟩ = some (.slice a bs.length cp) ∧ w2.frozen? ⟨p, 4, none⟩ = false ∧ w2.heap[p]? = w1.heap[p]?) := by
    intro o w2 hg
    have h1 : w2.heap[p]? = w1.heap[p]? := (hg.block p (by simp; omega) (Ne.symm hne)).trans (Below.heap_alloc w1 o p lp)
    exact ⟨(World.cell?_of_block (a := ⟨p, 4, none⟩) h1).trans c4, (World.frozen?_of_block (a := ⟨p, 4, none⟩) h1).trans (blk_free hb 4), h1⟩
  go_wp2_with (at_builtin; refine wpList_append_lies _ rfl _ _ 35 rfl B 5 i0 (.int .u8 0) 1 1 Try.underlying35 hi hz0 hz1 hz2 rfl (by decide) (.slice a bs.length cp) bs.length (Lib.byteCells bs) rfl (hown.alloc _) ⟨w1.heap.size, 0, none⟩ 1 1 [.int .u8 (c.toNat : Int)] rfl rfl (World.news_of_block (heap_alloc_new w1 _)) (by simp [Value.oneCell']) (by decide) (by unfold maxLen; omega) (by omega) (by simp; omega) _ rfl ?_; intro g' cp' w2 hown2 hgrow2 _ _; obtain ⟨d1, d2, d3⟩ := T1.out _ _ hgrow2)
  go_ret
  have hb2 : (bs ++ [c]).length = bs.length + 1 := by simp
  have hb3 : Lib.byteCells (bs ++ [c]) = Lib.byteCells bs ++ [.int .u8 (c.toNat : Int)] := by simp [Lib.byteCells]
  exact ⟨rfl, used_put (bs := bs ++ [c]) hB hb d3 (by rw [hb2, hb3]; exact hown2), ((hbel.trans ((Below.refl B w1).alloc (by omega) _)).grown hgrow2 (by simp; omega) (fun k hk => (hown.lt k hk).1)).setCell hB _, ((hoth.alloc _).grown hgrow2 (hown.alloc _)).setCell _⟩

end Go.Proofs.Qxb6625814a
