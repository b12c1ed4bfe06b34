import Derived.Test.Qxb6625863aRows
import Derived.WalkKit
import Derived.WalkSpells
import Derived.WalkLawsBesides
import Derived.Lib.Strings
import Derived.Lib.AppendStr
import Derived.Deep.AppendLies
import Derived.Below
namespace Go.Proofs.Qxb6625863a
open Go.RowKit
set_option linter.unusedVariables false

def Hid (p : Prop) : Prop := p
theorem Hid.out {p : Prop} (h : Hid p) : p := h

def RetV (w : World) (v : Value) (e : Ending) (w' : World) : Prop := e = .returned v ∧ w = w'
def RetB (w : World) (p : Bool → Prop) (e : Ending) (w' : World) : Prop := ∃ b : Bool, e = .returned (.bool b) ∧ w = w' ∧ p b

theorem drop_at {line : ByteArray} {k : Nat} (h : k < line.size) : line.data.toList.drop k = line[k] :: line.data.toList.drop (k + 1) := by
  rw [List.drop_eq_getElem_cons (by exact h)]
  rfl
theorem drop_end {line : ByteArray} {k : Nat} (h : ¬ k < line.size) : line.data.toList.drop k = [] := List.drop_of_length_le (by have : line.data.toList.length = line.size := rfl; omega)
theorem b_yes {c m : UInt8} (h : c = m) : ((c.toNat : Int) == (m.toNat : Int)) = true := by rw [h]; simp
theorem b_no {c m : UInt8} (h : c ≠ m) : ((c.toNat : Int) == (m.toNat : Int)) = false := beq_eq_false_iff_ne.2 (fun e => h (UInt8.toNat_inj.1 (Int.ofNat_inj.1 e)))
theorem ext_list (line : ByteArray) (i j : Nat) : (line.extract i j).data.toList = (line.data.toList.drop i).take (j - i) := Lib.extract_data line i j
theorem ext_end (line : ByteArray) (i : Nat) : (line.extract i line.size).data.toList = line.data.toList.drop i := by
  rw [ext_list]
  exact List.take_of_length_le (by have : line.data.toList.length = line.size := rfl; rw [List.length_drop]; omega)

/-! ### The splitter as a plain function -/
def splitF : Bool → Bool → List UInt8 → List UInt8 → List (List UInt8)
  | _, _, cur, [] => [cur]
  | q, true, cur, c :: t => splitF q false (cur ++ [c]) t
  | q, false, cur, c :: t =>
    if q = true ∧ c = 92 then splitF q true (cur ++ [c]) t
    else if c = 34 then splitF (!q) false (cur ++ [c]) t
    else if c = 44 ∧ q = false then cur :: splitF false false [] t
    else splitF q false (cur ++ [c]) t

/-- Where a quoted text ends: behind its closing quote. -/
def qEnd : List UInt8 → Option Nat
  | [] => none
  | [c] => if c = 92 then none else if c = 34 then some 1 else none
  | c :: d :: t => if c = 92 then (qEnd t).map (· + 2) else if c = 34 then some 1 else (qEnd (d :: t)).map (· + 1)

theorem sp_esc (q : Bool) (cur : List UInt8) (c : UInt8) (t : List UInt8) : splitF q true cur (c :: t) = splitF q false (cur ++ [c]) t := by cases q <;> rfl
theorem sp_bs (cur : List UInt8) (c : UInt8) (t : List UInt8) (h : c = 92) : splitF true false cur (c :: t) = splitF true true (cur ++ [c]) t := by
  rw [splitF, if_pos ⟨rfl, h⟩]
theorem sp_q (q : Bool) (cur : List UInt8) (c : UInt8) (t : List UInt8) (h : c = 34) : splitF q false cur (c :: t) = splitF (!q) false (cur ++ [c]) t := by
  rw [splitF, if_neg (fun e => absurd (h.symm.trans e.2) (by decide)), if_pos h]
theorem sp_c (cur : List UInt8) (c : UInt8) (t : List UInt8) (h : c = 44) : splitF false false cur (c :: t) = cur :: splitF false false [] t := by
  rw [splitF, if_neg (fun e => absurd e.1 (by decide)), if_neg (fun e => absurd (h.symm.trans e) (by decide)), if_pos ⟨h, rfl⟩]
theorem sp_o (q : Bool) (cur : List UInt8) (c : UInt8) (t : List UInt8) (h1 : ¬ (q = true ∧ c = 92)) (h2 : c ≠ 34) (h3 : ¬ (c = 44 ∧ q = false)) : splitF q false cur (c :: t) = splitF q false (cur ++ [c]) t := by
  rw [splitF, if_neg h1, if_neg h2, if_neg h3]
theorem sp_nil (q e : Bool) (cur : List UInt8) : splitF q e cur [] = [cur] := by cases q <;> cases e <;> rfl

/-- Over a quoted text in one go. -/
theorem sp_quoted : ∀ (m : Nat) (l cur : List UInt8), l.length ≤ m →
    match qEnd l with
    | none => splitF true false cur l = [cur ++ l]
    | some e => e ≤ l.length ∧ 1 ≤ e ∧ splitF true false cur l = splitF false false (cur ++ l.take e) (l.drop e) := by
  intro m
  induction m with
  | zero =>
    intro l cur hl
    have : l = [] := List.eq_nil_of_length_eq_zero (by omega)
    subst this
    simp [qEnd, sp_nil]
  | succ m ih =>
    intro l cur hl
    match l, hl with
    | [], _ => simp [qEnd, sp_nil]
    | [c], _ =>
      unfold qEnd
      by_cases h92 : c = 92
      · rw [if_pos h92]
        show splitF true false cur [c] = _
        rw [sp_bs _ _ _ h92, sp_nil]
      · rw [if_neg h92]
        by_cases h34 : c = 34
        · rw [if_pos h34]
          refine ⟨by simp, Nat.le_refl _, ?_⟩
          rw [sp_q _ _ _ _ h34]; simp
        · rw [if_neg h34]
          show splitF true false cur [c] = _
          rw [sp_o _ _ _ _ (fun e => h92 e.2) h34 (fun e => absurd e.2 (by decide)), sp_nil]
    | c :: d :: t, hl =>
      unfold qEnd
      by_cases h92 : c = 92
      · rw [if_pos h92]
        have h := ih t (cur ++ [c] ++ [d]) (by simp at hl; omega)
        have e0 : splitF true false cur (c :: d :: t) = splitF true false (cur ++ [c] ++ [d]) t := by rw [sp_bs _ _ _ h92, sp_esc]
        cases hb : qEnd t with
        | none => rw [hb] at h; show splitF true false cur (c :: d :: t) = _; rw [e0, h]; simp
        | some e => rw [hb] at h; refine ⟨by simp; omega, show 1 ≤ e + 2 by omega, ?_⟩; rw [e0, h.2.2]; simp
      · rw [if_neg h92]
        by_cases h34 : c = 34
        · rw [if_pos h34]
          refine ⟨by simp, Nat.le_refl _, ?_⟩
          rw [sp_q _ _ _ _ h34]; simp
        · rw [if_neg h34]
          have h := ih (d :: t) (cur ++ [c]) (by simp at hl ⊢; omega)
          have e0 : splitF true false cur (c :: d :: t) = splitF true false (cur ++ [c]) (d :: t) := sp_o _ _ _ _ (fun e => h92 e.2) h34 (fun e => absurd e.2 (by decide))
          cases hb : qEnd (d :: t) with
          | none => rw [hb] at h; show splitF true false cur (c :: d :: t) = _; rw [e0, h]; simp
          | some e => rw [hb] at h; refine ⟨by have := h.1; simp at this ⊢; omega, show 1 ≤ e + 1 by omega, ?_⟩; rw [e0, h.2.2]; simp

/-! ### What the laws say, on plain lists -/
/-- The state at the end. -/
def endS : Bool → Bool → List UInt8 → Bool × Bool
  | q, e, [] => (q, e)
  | q, true, _ :: t => endS q false t
  | q, false, c :: t => if q = true ∧ c = 92 then endS q true t else if c = 34 then endS (!q) false t else endS q false t

theorem sp_cat (b : List UInt8) : ∀ (a : List UInt8) (q e : Bool) (cur : List UInt8), endS q e a = (false, false) → splitF q e cur (a ++ 44 :: b) = splitF q e cur a ++ splitF false false [] b := by
  intro a
  induction a with
  | nil =>
    intro q e cur h
    simp only [endS, Prod.mk.injEq] at h
    obtain ⟨rfl, rfl⟩ := h
    rw [List.nil_append, sp_c _ _ _ rfl, sp_nil]; rfl
  | cons c t ih =>
    intro q e cur h
    rw [List.cons_append]
    cases e with
    | true =>
      rw [sp_esc, sp_esc]
      exact ih _ _ _ (by cases q <;> exact h)
    | false =>
      rw [endS] at h
      rw [splitF, splitF]
      by_cases h1 : q = true ∧ c = 92
      · rw [if_pos h1] at h; rw [if_pos h1, if_pos h1]; exact ih _ _ _ h
      · rw [if_neg h1] at h; rw [if_neg h1, if_neg h1]
        by_cases h2 : c = 34
        · rw [if_pos h2] at h; rw [if_pos h2, if_pos h2]; exact ih _ _ _ h
        · rw [if_neg h2] at h; rw [if_neg h2, if_neg h2]
          by_cases h3 : c = 44 ∧ q = false
          · rw [if_pos h3, if_pos h3, List.cons_append]
            rw [h3.2] at h
            rw [ih _ _ _ h]
          · rw [if_neg h3, if_neg h3]; exact ih _ _ _ h

theorem end_quoted : ∀ (m : Nat) (l : List UInt8) (e : Nat), l.length ≤ m → qEnd l = some e → endS true false l = endS false false (l.drop e) := by
  intro m
  induction m with
  | zero =>
    intro l e hl h
    have : l = [] := List.eq_nil_of_length_eq_zero (by omega)
    subst this
    cases h
  | succ m ih =>
    intro l e hl h
    match l, hl, h with
    | [], _, h => cases h
    | [c], _, h =>
      unfold qEnd at h
      split at h
      · cases h
      · rename_i h92
        split at h
        · rename_i h34
          simp at h; subst h
          rw [endS, if_neg (fun e => h92 e.2), if_pos h34]; rfl
        · cases h
    | c :: d :: t, hl, h =>
      unfold qEnd at h
      split at h
      · rename_i h92
        cases hb : qEnd t with
        | none => rw [hb] at h; cases h
        | some e' =>
          rw [hb] at h; simp at h; subst h
          rw [endS, if_pos ⟨rfl, h92⟩, endS, ih t e' (by simp at hl; omega) hb]; simp
      · rename_i h92
        split at h
        · rename_i h34
          simp at h; subst h
          rw [endS, if_neg (fun e => h92 e.2), if_pos h34]; rfl
        · rename_i h34
          cases hb : qEnd (d :: t) with
          | none => rw [hb] at h; cases h
          | some e' =>
            rw [hb] at h; simp at h; subst h
            rw [endS, if_neg (fun e => h92 e.2), if_neg h34, ih (d :: t) e' (by simp at hl ⊢; omega) hb]; simp

def joinF : List (List UInt8) → List UInt8
  | [] => []
  | [x] => x
  | x :: y :: t => x ++ 44 :: joinF (y :: t)
theorem sp_ne : ∀ (l : List UInt8) (q e : Bool) (cur : List UInt8), splitF q e cur l ≠ [] := by
  intro l
  induction l with
  | nil => intro q e cur; rw [sp_nil]; simp
  | cons c t ih =>
    intro q e cur
    cases e with
    | true => rw [sp_esc]; exact ih _ _ _
    | false =>
      rw [splitF]
      repeat' split
      all_goals first | exact ih _ _ _ | simp
theorem sp_join : ∀ (l : List UInt8) (q e : Bool) (cur : List UInt8), joinF (splitF q e cur l) = cur ++ l := by
  intro l
  induction l with
  | nil => intro q e cur; rw [sp_nil]; simp [joinF]
  | cons c t ih =>
    intro q e cur
    cases e with
    | true => rw [sp_esc, ih]; simp
    | false =>
      rw [splitF]
      by_cases h1 : q = true ∧ c = 92
      · rw [if_pos h1, ih]; simp
      · rw [if_neg h1]
        by_cases h2 : c = 34
        · rw [if_pos h2, ih]; simp
        · rw [if_neg h2]
          by_cases h3 : c = 44 ∧ q = false
          · rw [if_pos h3]
            have hne := sp_ne t false false []
            have hj := ih false false []
            cases hs : splitF false false [] t with
            | nil => exact absurd hs hne
            | cons y r => rw [hs] at hj; rw [joinF, hj, h3.1]; simp
          · rw [if_neg h3, ih]; simp

end Go.Proofs.Qxb6625863a
