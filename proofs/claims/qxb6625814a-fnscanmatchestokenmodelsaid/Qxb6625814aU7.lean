import Derived.Test.Qxb6625814aU6
import Derived.Laws.AppendOwnNone
namespace Go.Proofs.Qxb6625814a
open Go.RowKit
set_option linter.unusedVariables false

/-! ### The scanner with a bound above its blocks -/
def ScT (w : World) (B top p : Nat) (s : Sc) : Prop :=
  B ≤ p ∧ p < top ∧ ∃ ap v, Blk w p s.st s.q s.op ap v s.sn ∧ (ap = .pointer none ∨ ap = .pointer (some ⟨p, 3, none⟩)) ∧ w.ownsRow B 5 1 v s.bs.length (Lib.byteCells s.bs) ∧ ∀ k, v.ownBlock = some k → k < top

theorem Sco.top {w : World} {B p : Nat} {s : Sc} (h : Sco w B p s) : ScT w B w.heap.size p s := by
  obtain ⟨h1, ap, v, h2, h3, h4⟩ := h
  exact ⟨h1, lt_of_block h2, ap, v, h2, h3, h4, fun k hk => (h4.lt k hk).2⟩
theorem ScT.keep {w w' : World} {B' B top p : Nat} {s : Sc} (h : ScT w B top p s) (hb : Below B' w w') (hB : top ≤ B') : ScT w' B top p s := by
  obtain ⟨h1, h0, ap, v, h2, h3, h4, h5⟩ := h
  refine ⟨h1, h0, ap, v, ?_, h3, ⟨h4.1, ?_⟩, h5⟩
  · unfold Blk at h2 ⊢
    rw [hb.block p (by omega)]; exact h2
  · rcases h4.2 with hn | ⟨g, cap, cur, e1, hg, hh, rest⟩
    · exact .inl hn
    · subst e1
      exact .inr ⟨g, cap, cur, rfl, hg, by rw [hb.block g (by have := h5 g rfl; omega)]; exact hh, rest⟩

/-- The fields; from 'top' on nothing has turned. -/
def RetG (w : World) (B top p : Nat) (s : Sc) (e : Ending) (w' : World) : Prop :=
  e = .returned (.tuple #[.int .u8 (s.st : Int), .int .u8 (s.q.toNat : Int), .int .i64 s.op, .string ⟨s.bs.toArray⟩, .int .i64 s.sn]) ∧ Below B w w' ∧ Oth p w w' ∧ ∀ k, top ≤ k → w'.heap[k]? = w.heap[k]?
def RetH (w : World) (B top p : Nat) (s : Sc) (e : Ending) (w' : World) : Prop :=
  e = .returned (.string ⟨s.bs.toArray⟩) ∧ (∃ ap v, Blk w' p s.st s.q s.op ap v s.sn) ∧ Below B w w' ∧ Oth p w w' ∧ ∀ k, top ≤ k → w'.heap[k]? = w.heap[k]?

set_option maxHeartbeats 1000000 in
set_option maxRecDepth 100000 in
theorem str18x (B top p : Nat) (s : Sc) (w : World) (h : ScT w B top p s) (h0 : s.bs ≠ []) (hl : s.bs.length ≤ 4194304) :
    Calls Try.prog 18 #[.pointer (some ⟨p, 3, none⟩)] w (RetH w B top p s) := by
  obtain ⟨hB, hpt, ap, v, hb, hap, hown, htop⟩ := h
  obtain ⟨st, q, op, l, sn, out⟩ := s
  dsimp only at hb hown h0 hl
  have hne := own_blk_ne hb hown
  have hl0 : l.length ≠ 0 := by simpa using h0
  obtain ⟨g, cap, cur, rfl, hbg, hg, hnc, hcm, hcs, htake⟩ : ∃ g cap cur, v = .slice (some ⟨g, 0, none⟩) l.length cap ∧ B ≤ g ∧ w.heap[g]? = some (.cells cur 5 (0, 0)) ∧ l.length ≤ cap ∧ cap ≤ maxLen ∧ cur.size = cap * 1 ∧ cur.toList.take (l.length * 1) = Lib.byteCells l := by
    rcases hown.2 with ⟨_, hz⟩ | ⟨g, cap, cur, hv, r⟩
    · exact absurd hz hl0
    · exact ⟨g, cap, cur, hv, r⟩
  have hgt : g < top := htop g rfl
  have c1 : w.drew.cell? ⟨p, 4, none⟩ = some (.slice (some ⟨g, 0, none⟩) l.length cap) := (blk_cells hb).2.2.2.2.1
  have hSD : (Builtin.unsafeSliceData_ #[35] 54 #[.slice (some ⟨g, 0, none⟩) l.length cap]).run Try.prog w.drew = .ok (.pointer (some ⟨g, 0, none⟩)) w.drew :=
    Lib.run_unsafeSliceData_row _ _ _ _ _ _ (by omega)
  have hUS : (Builtin.unsafeString_ #[54, 3] 9 #[.pointer (some ⟨g, 0, none⟩), .int .i64 l.length]).run Try.prog w.drew = .ok (.string ⟨l.toArray⟩) (w.drew.freeze ⟨g, 0, none⟩ l.length) := by
    refine Lib.run_unsafeString_row w.drew 54 3 9 5 Try.underlying54 Try.cells5 g cur.size (by have hg' : w.drew.heap[g]? = some (.cells cur 5 (0, 0)) := hg; simp [World.shape?, hg']) l h0 (by omega) (by unfold maxLen at hcm; omega) ?_
    intro j x hx
    exact hown.cells (g := g) rfl j (.int .u8 x.toNat) (by simp [Lib.byteCells, hx])
  have hpg : p ≠ g := by simpa [Value.ownBlock] using fun e => hne (by rw [e]; rfl)
  go_enter Try.func18, Try.ntmps18
  go_wp2
  go_region
  all_goals (go_wp2; go_ret; refine ⟨rfl, ⟨ap, _, (heap_freeze_other _ _ _ _ hpg).trans hb⟩, Lib.below_freeze (Below.drew (Below.refl B w)) (p := ⟨g, 0, none⟩) hbg _, ⟨Nat.le_of_eq (size_freeze w.drew g l.length).symm, fun k hk _ hk' => heap_freeze_other _ _ _ _ (fun e => hk' cur (0, 0) (by rw [e]; exact hg))⟩, fun k hk => heap_freeze_other _ _ _ _ (by omega)⟩)

set_option maxRecDepth 100000 in
set_option maxHeartbeats 1000000 in
theorem fields10x (B top p : Nat) (s : Sc) (w : World) (h : ScT w B top p s) (h0 : s.bs ≠ []) (hl : s.bs.length ≤ 4194304) :
    Calls Try.prog 10 #[.pointer (some ⟨p, 0, none⟩)] w (RetG w B top p s) := by
  have hd : ScT w.drew B top p s := h
  obtain ⟨hB, hpt, ap, v, hb, hap, hown, htop⟩ := h
  have cc := blk_cells hb
  obtain ⟨st, q, op, l, sn, out⟩ := s
  dsimp only at hb hown h0 hl cc
  obtain ⟨c0, c1, c2, _, _, c5⟩ := cc
  go_enter Try.func10, Try.ntmps10
  go_wp2_with fail
  go_region_held3 (fun w' => w'.cell? ⟨p, 0, none⟩ = some (.int .u8 (st : Int)) ∧ w'.cell? ⟨p, 1, none⟩ = some (.int .u8 (q.toNat : Int)) ∧ w'.cell? ⟨p, 2, none⟩ = some (.int .i64 op) ∧ w'.cell? ⟨p, 5, none⟩ = some (.int .i64 sn))
    (first | go_keep | exact hq)
    (first | (go_at_call 18; refine (str18x B top p ⟨st, q, op, l, sn, out⟩ w.drew hd h0 hl).mono ?_; rintro e wq ⟨rfl, ⟨apq, vq, hbq⟩, hbelq, hothq, htq⟩; have hq : wq.cell? ⟨p, 0, none⟩ = some (.int .u8 (st : Int)) ∧ wq.cell? ⟨p, 1, none⟩ = some (.int .u8 (q.toNat : Int)) ∧ wq.cell? ⟨p, 2, none⟩ = some (.int .i64 op) ∧ wq.cell? ⟨p, 5, none⟩ = some (.int .i64 sn) := ⟨(blk_cells hbq).1, (blk_cells hbq).2.1, (blk_cells hbq).2.2.1, (blk_cells hbq).2.2.2.2.2⟩))
  all_goals
    go_wp2
    refine bodyPost_ret (results_tmp5 rfl _ _ _) rfl ?_
    exact ⟨rfl, ((Below.refl B w).drew).trans hbelq, ((Oth.refl p w).drew).trans hothq, htq⟩

/-- Nothing of a scanner that lies from 'lo' on turns, where nothing from lo on turns. -/
theorem Sco.above {w w' : World} {B p lo : Nat} {s : Sc} (h : Sco w B p s) (hB : lo ≤ B) (hk : ∀ k, lo ≤ k → w'.heap[k]? = w.heap[k]?) : Sco w' B p s := by
  obtain ⟨h1, ap, v, h2, h3, h4⟩ := h
  refine ⟨h1, ap, v, ?_, h3, ⟨h4.1, ?_⟩⟩
  · unfold Blk at h2 ⊢
    rw [hk p (by omega)]; exact h2
  · rcases h4.2 with hn | ⟨g, cap, cur, e1, hg, hh, rest⟩
    · exact .inl hn
    · exact .inr ⟨g, cap, cur, e1, hg, by rw [hk g (by omega)]; exact hh, rest⟩

/-- A scanner is as it was behind an append to statements. -/
theorem Sco.grown {w w' : World} {B p B' m : Nat} {s : Sc} {v0 : Value} {xs : List Value} (h : Sco w B p s) (hg : w.grownBy w' v0.ownBlock) (ho : w.ownsRow B' 34 2 v0 m xs) : Sco w' B p s := by
  have hn : ∀ k cs t fr, w.heap[k]? = some (.cells cs t fr) → t ≠ 34 → some k ≠ v0.ownBlock := by
    intro k cs t fr hk ht e
    rcases ho.2 with ⟨rfl, _⟩ | ⟨g, cap, cur, rfl, _, hh, _⟩
    · simp [Value.ownBlock] at e
    · simp only [Value.ownBlock, Option.some.injEq] at e
      subst e
      rw [hk] at hh
      simp at hh
      exact ht hh.2.1
  obtain ⟨h1, ap, v, h2, h3, h4⟩ := h
  refine ⟨h1, ap, v, ?_, h3, ⟨h4.1, ?_⟩⟩
  · unfold Blk at h2 ⊢
    rw [hg.block p (lt_of_block h2) (hn _ _ _ _ h2 (by decide))]; exact h2
  · rcases h4.2 with hn' | ⟨g, cap, cur, e1, hgg, hh, rest⟩
    · exact .inl hn'
    · exact .inr ⟨g, cap, cur, e1, hgg, by rw [hg.block g (lt_of_block hh) (hn _ _ _ _ hh (by decide))]; exact hh, rest⟩

theorem Stmts.keepB {w w' : World} {B' B : Nat} {v : Value} {out : List (Int × List UInt8)} (h : Stmts w B v out) (hb : Below B' w w') (hB : w.heap.size ≤ B') : Stmts w' B v out := by
  refine ⟨⟨h.1.1, ?_⟩, h.2⟩
  rcases h.1.2 with hn | ⟨g, cap, cur, e1, hg, hh, rest⟩
  · exact .inl hn
  · exact .inr ⟨g, cap, cur, e1, hg, by rw [hb.block g (by have := lt_of_block hh; omega)]; exact hh, rest⟩

/-! ### The plain law of the leading semicolon -/
theorem stepS_out (n : Int) (o : List (Int × List UInt8)) (s : Sc) (c : UInt8) (t : List UInt8) :
    stepS n { s with out := o ++ s.out } c t = ({ (stepS n s c t).1 with out := o ++ (stepS n s c t).1.out }, (stepS n s c t).2) := by
  obtain ⟨st, q, op, bs, sn, out⟩ := s
  unfold stepS begS
  dsimp only
  repeat' split
  all_goals simp_all

theorem scanF_out (n : Int) (o : List (Int × List UInt8)) : ∀ (f : Nat) (s : Sc) (l : List UInt8), scanF n f { s with out := o ++ s.out } l = { scanF n f s l with out := o ++ (scanF n f s l).out } := by
  intro f
  induction f with
  | zero => intro s l; rfl
  | succ f ih =>
    intro s l
    cases l with
    | nil => rfl
    | cons c t =>
      simp only [scanF]
      rw [stepS_out]
      exact ih _ _

/-- In code. -/
theorem lead_code (n : Int) (q : UInt8) (op : Int) (bs : List UInt8) (sn : Int) (l : List UInt8) (f : Nat) :
    scanF n (f + 1) ⟨0, q, op, bs, sn, []⟩ (59 :: l) = { scanF n f ⟨0, q, op, [], 0, []⟩ l with out := (if sn = 0 then [] else [(sn, bs ++ [59])]) ++ (scanF n f ⟨0, q, op, [], 0, []⟩ l).out } := by
  have h := scanF_out n (if sn = 0 then [] else [(sn, bs ++ [59])]) f ⟨0, q, op, [], 0, []⟩ l
  simp only [List.append_nil] at h
  rw [← h]
  simp only [scanF]
  congr 1
theorem lead_block (n : Int) (q : UInt8) (op : Int) (bs : List UInt8) (sn : Int) (l : List UInt8) (f : Nat) :
    scanF n (f + 1) ⟨1, q, op, bs, sn, []⟩ (59 :: l) = scanF n f ⟨1, q, op, bs ++ [59], sn, []⟩ l := by
  simp only [scanF]
  rw [st_B2 n q op bs sn [] 59 l (fun h => absurd h.1 (by decide))]
theorem lead_quote (n : Int) (q : UInt8) (op : Int) (bs : List UInt8) (sn : Int) (l : List UInt8) (f : Nat) (hq : isQ q = true) :
    scanF n (f + 1) ⟨2, q, op, bs, sn, []⟩ (59 :: l) = scanF n f ⟨2, q, op, bs ++ [59], sn, []⟩ l := by
  simp only [scanF]
  rw [st_Q3 n q op bs sn [] 59 l (fun h => absurd h.1 (by decide)) (fun e => by rw [← e] at hq; exact absurd hq (by decide))]

end Go.Proofs.Qxb6625814a
