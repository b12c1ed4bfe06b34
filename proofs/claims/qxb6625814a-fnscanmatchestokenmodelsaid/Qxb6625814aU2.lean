import Derived.Test.Qxb6625814aU1
import Derived.RegionTactic
namespace Go.Proofs.Qxb6625814a
open Go.RowKit
set_option linter.unusedVariables false

set_option maxHeartbeats 1000000 in
theorem wstr16 (B p st : Nat) (q : UInt8) (op : Int) (bs : List UInt8) (sn : Int) (s : ByteArray) (w : World) (h : ScIs w B p st q op bs sn) (hl : bs.length + s.size ≤ 4194304) (hBw : B ≤ w.heap.size) :
    Calls Try.prog 16 #[.pointer (some ⟨p, 3, none⟩), .string s] w (RetSc w (.tuple #[.int .i64 s.size, .nilIface]) B p st q op (bs ++ s.data.toList) sn) := by
  obtain ⟨i0, hi, hz0, hz1, hz2⟩ := info_parts Try.info5
  go_enter Try.func16, Try.ntmps16
  go_wp2_with fail
  refine (check19 B p st q op bs sn w h).mono ?_
  rintro e w1 ⟨rfl, ⟨hB, v, hb, hown⟩, hbel, hoth⟩
  obtain ⟨a, cp, rfl⟩ := own_shape hown
  have c4 := (blk_cells hb).2.2.2.2.1
  have lp := blk_lt hb
  have ls := hbel.size
  have hne := own_blk_ne hb hown
  have T1 : Hid (∀ (w2 : World), w1.grownBy w2 (Value.slice a bs.length cp).ownBlock → w2.cell? ⟨p, 4, none⟩ = some (.slice a bs.length cp) ∧ w2.frozen? ⟨p, 4, none⟩ = false ∧ w2.heap[p]? = w1.heap[p]?) := by
    intro w2 hg
    have h1 : w2.heap[p]? = w1.heap[p]? := hg.block p (by omega) (Ne.symm hne)
    exact ⟨(World.cell?_of_block (a := ⟨p, 4, none⟩) h1).trans c4, (World.frozen?_of_block (a := ⟨p, 4, none⟩) h1).trans (blk_free hb 4), h1⟩
  go_wp2_with (at_builtin; refine Lib.wpList_append_own_string _ rfl _ _ 35 9 rfl B 5 i0 Try.underlying35 Try.underlying9 hi hz0 hz1 hz2 (.slice a bs.length cp) bs.length (Lib.byteCells bs) rfl hown s rfl (by unfold maxLen; omega) (by omega) (by omega) ?_; intro v' w2 hown2 hgrow2 _; obtain ⟨d1, d2, d3⟩ := T1.out _ hgrow2; obtain ⟨a', cp', hv⟩ := own_shape hown2; subst hv)
  go_ret2
  have hb2 : (bs ++ s.data.toList).length = bs.length + s.size := by rw [List.length_append, Array.length_toList]; rfl
  have hb3 : Lib.byteCells (bs ++ s.data.toList) = Lib.byteCells bs ++ Lib.strCells s := by rw [Lib.byteCells_append]; rfl
  exact ⟨rfl, used_put (bs := bs ++ s.data.toList) hB hb d3 (by rw [hb2, hb3]; exact hown2), (hbel.grown hgrow2 (by omega) (fun k hk => (hown.lt k hk).1)).setCell hB _, (hoth.grown hgrow2 hown).setCell _⟩

/-- It returns the text; the block stands as it was. -/
def RetStr (w : World) (B p st : Nat) (q : UInt8) (op : Int) (l : List UInt8) (sn : Int) (e : Ending) (w' : World) : Prop :=
  e = .returned (.string ⟨l.toArray⟩) ∧ (∃ ap v, Blk w' p st q op ap v sn) ∧ Below B w w' ∧ Oth p w w'

theorem heap_freeze_other (w : World) (g n k : Nat) (h : k ≠ g) : (w.freeze ⟨g, 0, none⟩ n).heap[k]? = w.heap[k]? := by
  unfold World.freeze
  split
  · rfl
  · show (w.heap.modify g _)[k]? = _
    rw [Array.getElem?_modify, if_neg (fun e => h e.symm)]
theorem size_freeze (w : World) (g n : Nat) : (w.freeze ⟨g, 0, none⟩ n).heap.size = w.heap.size := by
  unfold World.freeze
  split
  · rfl
  · exact Array.size_modify

set_option maxHeartbeats 1000000 in
set_option maxRecDepth 100000 in
theorem str18 (B p st : Nat) (q : UInt8) (op : Int) (l : List UInt8) (sn : Int) (w : World) (h : ScIs w B p st q op l sn) (h0 : l ≠ []) (hl : l.length ≤ 4194304) :
    Calls Try.prog 18 #[.pointer (some ⟨p, 3, none⟩)] w (RetStr w B p st q op l sn) := by
  obtain ⟨hB, ap, v, hb, hap, hown⟩ := h
  have hne := own_blk_ne hb hown
  have hl0 : l.length ≠ 0 := by simpa using h0
  obtain ⟨g, cap, cur, rfl, hbg, hg, hnc, hcm, hcs, htake⟩ : ∃ g cap cur, v = .slice (some ⟨g, 0, none⟩) l.length cap ∧ B ≤ g ∧ w.heap[g]? = some (.cells cur 5 (0, 0)) ∧ l.length ≤ cap ∧ cap ≤ maxLen ∧ cur.size = cap * 1 ∧ cur.toList.take (l.length * 1) = Lib.byteCells l := by
    rcases hown.2 with ⟨_, hz⟩ | ⟨g, cap, cur, hv, r⟩
    · exact absurd hz hl0
    · exact ⟨g, cap, cur, hv, r⟩
  have c1 : w.drew.cell? ⟨p, 4, none⟩ = some (.slice (some ⟨g, 0, none⟩) l.length cap) := (blk_cells hb).2.2.2.2.1
  have hSD : (Builtin.unsafeSliceData_ #[35] 54 #[.slice (some ⟨g, 0, none⟩) l.length cap]).run Try.prog w.drew = .ok (.pointer (some ⟨g, 0, none⟩)) w.drew :=
    Lib.run_unsafeSliceData_row _ _ _ _ _ _ (by omega)
  have hUS : (Builtin.unsafeString_ #[54, 3] 9 #[.pointer (some ⟨g, 0, none⟩), .int .i64 l.length]).run Try.prog w.drew = .ok (.string ⟨l.toArray⟩) (w.drew.freeze ⟨g, 0, none⟩ l.length) := by
    refine Lib.run_unsafeString_row w.drew 54 3 9 5 Try.underlying54 Try.cells5 g cur.size (by have hg' : w.drew.heap[g]? = some (.cells cur 5 (0, 0)) := hg; simp [World.shape?, hg']) l h0 (by omega) (by unfold maxLen at hcm; omega) ?_
    intro j x hx
    exact hown.cells (g := g) rfl j (.int .u8 x.toNat) (by simp [Lib.byteCells, hx])
  have hpg : p ≠ g := by simpa [Value.ownBlock] using fun e => hne (by rw [e]; rfl)
  go_enter Try.func18, Try.ntmps18
  go_wp2
  go_region
  all_goals (go_wp2; go_ret; refine ⟨rfl, ⟨ap, _, (heap_freeze_other _ _ _ _ hpg).trans hb⟩, Lib.below_freeze (Below.drew (Below.refl B w)) (p := ⟨g, 0, none⟩) hbg _, ⟨Nat.le_of_eq (size_freeze w.drew g l.length).symm, fun k hk _ hk' => heap_freeze_other _ _ _ _ (fun e => hk' cur (0, 0) (by rw [e]; exact hg))⟩⟩)

theorem reset23 (B p st : Nat) (q : UInt8) (op sn : Int) (ap v : Value) (w : World) (hB : B ≤ p) (h : Blk w p st q op ap v sn) :
    Calls Try.prog 23 #[.pointer (some ⟨p, 3, none⟩)] w (RetSc w (.tuple #[]) B p st q op [] sn) := by
  have c := blk_cells h
  have c3 := c.2.2.2.1
  have c4 := c.2.2.2.2.1
  have f3 := blk_free h 3
  have f4 := blk_free h 4
  clear c
  have h1 : Blk (w.setCell ⟨p, 3, none⟩ (.pointer none)) p st q op (.pointer none) v sn := by unfold Blk; rw [blk_set h]; rfl
  have d4 := (blk_cells h1).2.2.2.2.1
  have g4 := blk_free h1 4
  have h2 : Blk ((w.setCell ⟨p, 3, none⟩ (.pointer none)).setCell ⟨p, 4, none⟩ (.slice none 0 0)) p st q op (.pointer none) (.slice none 0 0) sn := by unfold Blk; rw [blk_set h1]; rfl
  go_enter Try.func23, Try.ntmps23
  go_wp2
  go_end0
  exact ⟨rfl, ⟨hB, _, _, h2, .inl rfl, World.ownsRow_nil _ _ _ _⟩, ((Below.refl B w).setCell (p := ⟨p, 3, none⟩) hB _).setCell (p := ⟨p, 4, none⟩) hB _, ((Oth.refl p w).setCell _).setCell _⟩

/-- What 'begin' leaves. -/
theorem begin_yes (B p st : Nat) (q : UInt8) (op : Int) (bs : List UInt8) (n : Int) (w : World) (h : ScIs w B p st q op bs 0) :
    Calls Try.prog 22 #[.pointer (some ⟨p, 0, none⟩), .int .i64 n] w (RetSc w (.tuple #[]) B p st q op [] n) := by
  obtain ⟨hB, ap, v, hb, hap, hown⟩ := h
  have c5 := (blk_cells hb).2.2.2.2.2
  go_enter Try.func22, Try.ntmps22
  go_wp2_with fail
  refine (reset23 B p st q op 0 ap v w hB hb).mono ?_
  rintro e w1 ⟨rfl, ⟨_, ap1, v1, hb1, hap1, hown1⟩, hbel, hoth⟩
  have d5 := (blk_cells hb1).2.2.2.2.2
  have f5 := blk_free hb1 5
  have h2 : Blk (w1.setCell ⟨p, 5, none⟩ (.int .i64 n)) p st q op ap1 v1 n := by unfold Blk; rw [blk_set hb1]; rfl
  go_wp2
  go_end0
  exact ⟨rfl, ⟨hB, ap1, v1, h2, hap1, ownsRow_setCell_other hown1 (own_blk_ne hb1 hown1) _⟩, hbel.setCell (p := ⟨p, 5, none⟩) hB _, hoth.setCell _⟩

theorem begin_no (B p st : Nat) (q : UInt8) (op : Int) (bs : List UInt8) (sn n : Int) (w : World) (h : ScIs w B p st q op bs sn) (hn : sn ≠ 0) :
    Calls Try.prog 22 #[.pointer (some ⟨p, 0, none⟩), .int .i64 n] w (RetSc w (.tuple #[]) B p st q op bs sn) := by
  have h' := h
  obtain ⟨hB, ap, v, hb, hap, hown⟩ := h
  have c5 := (blk_cells hb).2.2.2.2.2
  have hn' : (sn == 0) = false := beq_eq_false_iff_ne.2 hn
  clear hn
  go_enter Try.func22, Try.ntmps22
  go_wp2
  go_end0
  exact ⟨rfl, h', Below.refl _ _, Oth.refl _ _⟩

/-- Does s begin with t? -/
def hp (s t : ByteArray) : Bool := t.data.toList.isPrefixOf s.data.toList

end Go.Proofs.Qxb6625814a
