import Derived.Test.Qxb6625814aU3
import Derived.Deep.RegionHeld3
import Derived.Deep.AppendLies
import Derived.Deep.DrawnRows
namespace Go.Proofs.Qxb6625814a
open Go.RowKit
set_option linter.unusedVariables false

theorem Try.info34 : (Try.prog.info? 34).map (fun i => (i.zero, i.size, i.bytes)) = some (some (.agg #[.int .i64 0, .string ByteArray.empty]), 2, 24) := by kernel_rfl

def stCells (out : List (Int × List UInt8)) : List Value := out.flatMap (fun x => [.int .i64 x.1, .string ⟨x.2.toArray⟩])
/-- The slice of statements out, of the call's own. -/
def Stmts (w : World) (B : Nat) (v : Value) (out : List (Int × List UInt8)) : Prop := w.ownsRow B 34 2 v out.length (stCells out) ∧ (out = [] → v = .slice none 0 0)

theorem Stmts.keep {w w' : World} {B p : Nat} {v : Value} {out : List (Int × List UInt8)} {cs : Array Value} {fr : Nat × Nat} (h : Stmts w B v out) (ho : Oth p w w') (hp : w.heap[p]? = some (.cells cs 44 fr)) : Stmts w' B v out := by
  refine ⟨⟨h.1.1, ?_⟩, h.2⟩
  rcases h.1.2 with hn | ⟨g, cap, cur, e1, hg, hh, rest⟩
  · exact .inl hn
  · refine .inr ⟨g, cap, cur, e1, hg, ?_, rest⟩
    rw [ho.block g (lt_of_block hh) (fun e => by rw [e, hp] at hh; simp at hh) (fun cs fr e => by rw [e] at hh; simp at hh)]
    exact hh

/-- The block of an owned slice of statements is not the scanner's. -/
theorem stOwn_ne {w : World} {B : Nat} {v : Value} {m : Nat} {xs : List Value} {b : Nat} {cs : Array Value} {fr : Nat × Nat} (hown : w.ownsRow B 34 2 v m xs) (hb : w.heap[b]? = some (.cells cs 44 fr)) : v.ownBlock ≠ some b := by
  rcases hown.2 with ⟨rfl, _⟩ | ⟨g, cap, cur, rfl, _, hg, _⟩
  · simp [Value.ownBlock]
  · intro h
    simp only [Value.ownBlock, Option.some.injEq] at h
    subst h
    rw [hg] at hb
    simp at hb

def Sco (w : World) (B p : Nat) (s : Sc) : Prop := ScIs w B p s.st s.q s.op s.bs s.sn

/-- What scan comes to. -/
def RetScan (w : World) (B p : Nat) (fin : Sc) (e : Ending) (w' : World) : Prop :=
  ∃ v, e = .returned v ∧ Stmts w' B v fin.out ∧ ScIs w' B p fin.st fin.q fin.op (fin.bs ++ [10]) fin.sn ∧ Below B w w'

/-! ### Stores into the scanner's own fields -/
theorem sc_blk {w : World} {B p st : Nat} {q : UInt8} {op sn : Int} {bs : List UInt8} (h : ScIs w B p st q op bs sn) : ∃ cs, w.heap[p]? = some (.cells cs 44 (0, 0)) := by
  obtain ⟨_, ap, v, hb, _⟩ := h
  exact ⟨_, hb⟩
theorem sc_cells {w : World} {B p st : Nat} {q : UInt8} {op sn : Int} {bs : List UInt8} (h : ScIs w B p st q op bs sn) :
    w.cell? ⟨p, 0, none⟩ = some (.int .u8 (st : Int)) ∧ w.cell? ⟨p, 1, none⟩ = some (.int .u8 (q.toNat : Int)) ∧ w.cell? ⟨p, 2, none⟩ = some (.int .i64 op) ∧ w.cell? ⟨p, 5, none⟩ = some (.int .i64 sn) ∧ (∀ j, w.frozen? ⟨p, j, none⟩ = false) ∧ p < w.heap.size := by
  obtain ⟨_, ap, v, hb, _⟩ := h
  have c := blk_cells hb
  exact ⟨c.1, c.2.1, c.2.2.1, c.2.2.2.2.2, blk_free hb, blk_lt hb⟩
theorem sc_st {w : World} {B p st : Nat} {q : UInt8} {op sn : Int} {bs : List UInt8} (h : ScIs w B p st q op bs sn) (st' : Nat) : ScIs (w.setCell ⟨p, 0, none⟩ (.int .u8 (st' : Int))) B p st' q op bs sn := by
  obtain ⟨hB, ap, v, hb, hap, hown⟩ := h
  exact ⟨hB, ap, v, by unfold Blk; rw [blk_set hb]; rfl, hap, ownsRow_setCell_other hown (own_blk_ne hb hown) _⟩
theorem sc_q {w : World} {B p st : Nat} {q : UInt8} {op sn : Int} {bs : List UInt8} (h : ScIs w B p st q op bs sn) (q' : UInt8) : ScIs (w.setCell ⟨p, 1, none⟩ (.int .u8 (q'.toNat : Int))) B p st q' op bs sn := by
  obtain ⟨hB, ap, v, hb, hap, hown⟩ := h
  exact ⟨hB, ap, v, by unfold Blk; rw [blk_set hb]; rfl, hap, ownsRow_setCell_other hown (own_blk_ne hb hown) _⟩
theorem sc_op {w : World} {B p st : Nat} {q : UInt8} {op sn : Int} {bs : List UInt8} (h : ScIs w B p st q op bs sn) (op' : Int) : ScIs (w.setCell ⟨p, 2, none⟩ (.int .i64 op')) B p st q op' bs sn := by
  obtain ⟨hB, ap, v, hb, hap, hown⟩ := h
  exact ⟨hB, ap, v, by unfold Blk; rw [blk_set hb]; rfl, hap, ownsRow_setCell_other hown (own_blk_ne hb hown) _⟩
theorem sc_sn {w : World} {B p st : Nat} {q : UInt8} {op sn : Int} {bs : List UInt8} (h : ScIs w B p st q op bs sn) (sn' : Int) : ScIs (w.setCell ⟨p, 5, none⟩ (.int .i64 sn')) B p st q op bs sn' := by
  obtain ⟨hB, ap, v, hb, hap, hown⟩ := h
  exact ⟨hB, ap, v, by unfold Blk; rw [blk_set hb]; rfl, hap, ownsRow_setCell_other hown (own_blk_ne hb hown) _⟩

def bb (bs : List UInt8) (sn : Int) : List UInt8 := if sn = 0 then [] else bs
def bn (n sn : Int) : Int := if sn = 0 then n else sn
theorem bb_le (bs : List UInt8) (sn : Int) : (bb bs sn).length ≤ bs.length := by unfold bb; split <;> simp
theorem begS_eq (n : Int) (st : Nat) (q : UInt8) (op : Int) (bs : List UInt8) (sn : Int) (out : List (Int × List UInt8)) : begS n ⟨st, q, op, bs, sn, out⟩ = ⟨st, q, op, bb bs sn, bn n sn, out⟩ := by
  unfold begS bb bn
  split <;> rfl

theorem begin22 (B p st : Nat) (q : UInt8) (op : Int) (bs : List UInt8) (sn n : Int) (w : World) (h : ScIs w B p st q op bs sn) :
    Calls Try.prog 22 #[.pointer (some ⟨p, 0, none⟩), .int .i64 n] w (RetSc w (.tuple #[]) B p st q op (bb bs sn) (bn n sn)) := by
  by_cases hn : sn = 0
  · subst hn
    exact begin_yes B p st q op bs n w h
  · unfold bb bn
    rw [if_neg hn, if_neg hn]
    exact begin_no B p st q op bs sn n w h hn

/-! ### The step, case by case -/
section
variable (n : Int) (q : UInt8) (op : Int) (bs : List UInt8) (sn : Int) (out : List (Int × List UInt8)) (c d : UInt8) (t : List UInt8)
theorem st_B1 (hc : c = 42) (hd : d = 47) : stepS n ⟨1, q, op, bs, sn, out⟩ c (d :: t) = (⟨0, q, op, bs ++ [c] ++ [d], sn, out⟩, t) := by subst hc hd; simp [stepS]
theorem st_B2 (h : ¬ (c = 42 ∧ t.head? = some 47)) : stepS n ⟨1, q, op, bs, sn, out⟩ c t = (⟨1, q, op, bs ++ [c], sn, out⟩, t) := by simp [stepS, h]
theorem st_Q1 (hc : c = 92) (hq : q ≠ 96) : stepS n ⟨2, q, op, bs, sn, out⟩ c (d :: t) = (⟨2, q, op, bs ++ [c] ++ [d], sn, out⟩, t) := by subst hc; simp [stepS, hq]
theorem st_Q2 (h : ¬ (c = 92 ∧ q ≠ 96 ∧ t ≠ [])) (hc : c = q) : stepS n ⟨2, q, op, bs, sn, out⟩ c t = (⟨0, q, op, bs ++ [c], sn, out⟩, t) := by
  unfold stepS; rw [if_neg (show ¬ (2 : Nat) = 1 by decide), if_pos rfl, if_neg h, if_pos hc]
theorem st_Q3 (h : ¬ (c = 92 ∧ q ≠ 96 ∧ t ≠ [])) (hc : c ≠ q) : stepS n ⟨2, q, op, bs, sn, out⟩ c t = (⟨2, q, op, bs ++ [c], sn, out⟩, t) := by
  unfold stepS; rw [if_neg (show ¬ (2 : Nat) = 1 by decide), if_pos rfl, if_neg h, if_neg hc]
theorem st_K (h : c = 35 ∨ (c = 45 ∧ dashC t = true)) : stepS n ⟨0, q, op, bs, sn, out⟩ c t = (⟨0, q, op, bs ++ c :: t, sn, out⟩, []) := by
  unfold stepS; rw [if_neg (show ¬ (0 : Nat) = 1 by decide), if_neg (show ¬ (0 : Nat) = 2 by decide), if_pos h]
theorem st_S1 (hc : c = 47) (hd : d = 42) (h3 : t.head? = some 33) : stepS n ⟨0, q, op, bs, sn, out⟩ c (d :: t) = (⟨1, q, n, bb bs sn ++ [c] ++ [d], bn n sn, out⟩, t) := by
  subst hc hd; simp [stepS, h3, begS_eq]
theorem st_S3 (hc : c = 47) (hd : d = 42) (h3 : t.head? ≠ some 33) : stepS n ⟨0, q, op, bs, sn, out⟩ c (d :: t) = (⟨1, q, n, bs ++ [c] ++ [d], sn, out⟩, t) := by
  subst hc hd; simp [stepS, h3]
theorem st_M1 (hc : c = 59) (hs : sn ≠ 0) : stepS n ⟨0, q, op, bs, sn, out⟩ c t = (⟨0, q, op, [], 0, out ++ [(sn, bs ++ [c])]⟩, t) := by subst hc; simp [stepS, hs]
theorem st_M2 (hc : c = 59) (hs : sn = 0) : stepS n ⟨0, q, op, bs, sn, out⟩ c t = (⟨0, q, op, [], 0, out⟩, t) := by subst hc hs; simp [stepS]
theorem st_W (hc : c = 32 ∨ c = 9) : stepS n ⟨0, q, op, bs, sn, out⟩ c t = (⟨0, q, op, bs ++ [c], sn, out⟩, t) := by rcases hc with rfl | rfl <;> simp [stepS]
theorem st_Dq (hc : c = 39 ∨ c = 34 ∨ c = 96) : stepS n ⟨0, q, op, bs, sn, out⟩ c t = (⟨2, c, n, bb bs sn ++ [c], bn n sn, out⟩, t) := by rcases hc with rfl | rfl | rfl <;> simp [stepS, begS_eq]
theorem st_Dn (h1 : ¬ (c = 35 ∨ (c = 45 ∧ dashC t = true))) (h2 : ¬ (c = 47 ∧ t.head? = some 42)) (h3 : c ≠ 59) (h4 : ¬ (c = 32 ∨ c = 9)) (h5 : ¬ (c = 39 ∨ c = 34 ∨ c = 96)) :
    stepS n ⟨0, q, op, bs, sn, out⟩ c t = (⟨0, q, op, bb bs sn ++ [c], bn n sn, out⟩, t) := by
  unfold stepS; rw [if_neg (show ¬ (0 : Nat) = 1 by decide), if_neg (show ¬ (0 : Nat) = 2 by decide), if_neg h1, if_neg h2, if_neg h3, if_neg h4, if_neg h5, begS_eq]
end

theorem drop_at {line : ByteArray} {k : Nat} (h : k < line.size) : line.data.toList.drop k = line[k] :: line.data.toList.drop (k + 1) := by
  rw [List.drop_eq_getElem_cons (by exact h)]
  rfl
theorem drop_end {line : ByteArray} {k : Nat} (h : ¬ k < line.size) : line.data.toList.drop k = [] := List.drop_of_length_le (by have : line.data.toList.length = line.size := rfl; omega)
theorem b_yes {c m : UInt8} (h : c = m) : ((c.toNat : Int) == (m.toNat : Int)) = true := by rw [h]; simp
theorem b_no {c m : UInt8} (h : c ≠ m) : ((c.toNat : Int) == (m.toNat : Int)) = false := beq_eq_false_iff_ne.2 (fun e => h (UInt8.toNat_inj.1 (Int.ofNat_inj.1 e)))
theorem n_yes {c m : UInt8} (h : c ≠ m) : ((c.toNat : Int) != (m.toNat : Int)) = true := by rw [bne, b_no h]; rfl
theorem n_no {c m : UInt8} (h : c = m) : ((c.toNat : Int) != (m.toNat : Int)) = false := by rw [bne, b_yes h]; rfl
theorem hp_at {line : ByteArray} {k : Nat} (t : ByteArray) : hp (line.extract k line.size) t = t.data.toList.isPrefixOf (line.data.toList.drop k) := by
  unfold hp; rw [Lib.extract_to_end]
theorem size_at (line : ByteArray) (k : Nat) : (line.extract k line.size).size = line.size - k := by simp

/-- The relation of scan's loop. -/
def Rel (B p : Nat) (line : ByteArray) (n : Int) (w : World) (fin : Sc) (v i : Value) (wr : World) : Prop :=
  ∃ (k : Nat) (s : Sc), k ≤ line.size + 1 ∧ i = .int .i64 k ∧ Goes n s (line.data.toList.drop k) fin ∧ Sco wr B p s ∧ Stmts wr B v s.out ∧ Below B w wr ∧ s.bs.length + (line.size - k) ≤ 2097152 ∧ s.out.length ≤ k ∧ s.st ≤ 2

theorem rel_next {B p : Nat} {line : ByteArray} {n : Int} {w w1 : World} {fin s s' : Sc} {v : Value} {k k' : Nat} {i : Value} (hlt : k < line.size) (HG : Goes n s (line.data.toList.drop k) fin) (e : stepS n s line[k] (line.data.toList.drop (k + 1)) = (s', line.data.toList.drop k'))
    (hS : Sco w1 B p s') (hSt : Stmts w1 B v s'.out) (hb : Below B w w1) (hk : k' ≤ line.size + 1) (hi : i = .int .i64 k') (hl : s'.bs.length + (line.size - k') ≤ 2097152) (ho : s'.out.length ≤ k') (hst : s'.st ≤ 2) : Rel B p line n w fin v i w1 := by
  refine ⟨k', s', hk, hi, ?_, hS, hSt, hb, hl, ho, hst⟩
  rw [drop_at hlt] at HG
  have := goes_step HG
  rw [e] at this
  exact this

end Go.Proofs.Qxb6625814a
