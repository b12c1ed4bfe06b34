import Derived.Test.Qxb6625814aU7
namespace Go.Proofs.Qxb6625814a
open Go.RowKit
set_option linter.unusedVariables false

/-! ### The token model's searches, on plain lists -/
/-- Where the first "*" followed by "/" stands. -/
def bE : List UInt8 → Option Nat
  | [] => none
  | c :: t => if c = 42 ∧ t.head? = some 47 then some 0 else (bE t).map (· + 1)
/-- Where the first quote q stands that no backslash escapes. -/
def qE (q : UInt8) : List UInt8 → Option Nat
  | [] => none
  | [c] => if c = 92 ∧ q ≠ 96 then none else if c = q then some 0 else none
  | c :: d :: t => if c = 92 ∧ q ≠ 96 then (qE q t).map (· + 2) else if c = q then some 0 else (qE q (d :: t)).map (· + 1)

theorem bE_le : ∀ (l : List UInt8) (e : Nat), bE l = some e → e + 2 ≤ l.length := by
  intro l
  induction l with
  | nil => intro e h; cases h
  | cons c t ih =>
    intro e h
    unfold bE at h
    split at h
    · rename_i hc
      cases t with
      | nil => simp at hc
      | cons d t => simp at h; subst h; simp
    · cases hb : bE t with
      | none => rw [hb] at h; cases h
      | some e' => rw [hb] at h; simp at h; have := ih e' hb; simp; omega

theorem goes_block (n : Int) (q : UInt8) (op : Int) (sn : Int) (out : List (Int × List UInt8)) (fin : Sc) : ∀ (l bs : List UInt8), Goes n ⟨1, q, op, bs, sn, out⟩ l fin →
    match bE l with
    | none => Goes n ⟨1, q, op, bs ++ l, sn, out⟩ [] fin
    | some e => Goes n ⟨0, q, op, bs ++ l.take (e + 2), sn, out⟩ (l.drop (e + 2)) fin := by
  intro l
  induction l with
  | nil => intro bs h; simpa [bE] using h
  | cons c t ih =>
    intro bs h
    unfold bE
    by_cases hc : c = 42 ∧ t.head? = some 47
    · rw [if_pos hc]
      cases t with
      | nil => simp at hc
      | cons d t =>
        obtain ⟨rfl, hd⟩ := hc
        simp at hd
        subst hd
        have := goes_step h
        rw [st_B1 n q op bs sn out 42 47 t rfl rfl] at this
        simpa using this
    · rw [if_neg hc]
      have h1 := goes_step h
      rw [st_B2 n q op bs sn out c t hc] at h1
      have h2 := ih _ h1
      cases hb : bE t with
      | none => rw [hb] at h2; simpa using h2
      | some e => rw [hb] at h2; simpa using h2

theorem goes_quote (n : Int) (q : UInt8) (op : Int) (sn : Int) (out : List (Int × List UInt8)) (fin : Sc) (hqq : q ≠ 92) : ∀ (m : Nat) (l bs : List UInt8), l.length ≤ m → Goes n ⟨2, q, op, bs, sn, out⟩ l fin →
    match qE q l with
    | none => Goes n ⟨2, q, op, bs ++ l, sn, out⟩ [] fin
    | some e => e + 1 ≤ l.length ∧ Goes n ⟨0, q, op, bs ++ l.take (e + 1), sn, out⟩ (l.drop (e + 1)) fin := by
  intro m
  induction m with
  | zero =>
    intro l bs hl h
    have : l = [] := List.eq_nil_of_length_eq_zero (by omega)
    subst this
    simpa [qE] using h
  | succ m ih =>
    intro l bs hl h
    match l, hl, h with
    | [], _, h => simpa [qE] using h
    | [c], _, h =>
      have h1 := goes_step h
      unfold qE
      by_cases hc : c = 92 ∧ q ≠ 96
      · rw [if_pos hc]
        by_cases hq : c = q
        · rw [st_Q2 n q op bs sn out c [] (fun h => h.2.2 rfl) hq] at h1
          exact absurd (hq.symm.trans hc.1) hqq
        · rw [st_Q3 n q op bs sn out c [] (fun h => h.2.2 rfl) hq] at h1
          exact h1
      · rw [if_neg hc]
        by_cases hq : c = q
        · rw [if_pos hq]
          rw [st_Q2 n q op bs sn out c [] (fun h => h.2.2 rfl) hq] at h1
          exact ⟨by simp, by simpa using h1⟩
        · rw [if_neg hq]
          rw [st_Q3 n q op bs sn out c [] (fun h => h.2.2 rfl) hq] at h1
          exact h1
    | c :: d :: t, hl, h =>
      have h1 := goes_step h
      unfold qE
      by_cases hc : c = 92 ∧ q ≠ 96
      · rw [if_pos hc]
        rw [st_Q1 n q op bs sn out c d t hc.1 hc.2] at h1
        have h2 := ih t _ (by simp at hl; omega) h1
        cases hb : qE q t with
        | none => rw [hb] at h2; simpa using h2
        | some e => rw [hb] at h2; simpa using h2
      · rw [if_neg hc]
        by_cases hq : c = q
        · rw [if_pos hq]
          rw [st_Q2 n q op bs sn out c (d :: t) (fun h => hc ⟨h.1, h.2.1⟩) hq] at h1
          exact ⟨by simp, by simpa using h1⟩
        · rw [if_neg hq]
          rw [st_Q3 n q op bs sn out c (d :: t) (fun h => hc ⟨h.1, h.2.1⟩) hq] at h1
          have h2 := ih (d :: t) _ (by simp at hl ⊢; omega) h1
          cases hb : qE q (d :: t) with
          | none => rw [hb] at h2; simpa using h2
          | some e => rw [hb] at h2; simpa using h2

end Go.Proofs.Qxb6625814a
