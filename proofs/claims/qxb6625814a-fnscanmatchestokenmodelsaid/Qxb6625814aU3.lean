import Derived.Test.Qxb6625814aU2
import Derived.Lib.Strings
import Derived.Lib.IndexBytes
namespace Go.Proofs.Qxb6625814a
open Go.RowKit
set_option linter.unusedVariables false

def RetV (w : World) (v : Value) (e : Ending) (w' : World) : Prop := e = .returned v ∧ w = w'

theorem hp_yes {s t : ByteArray} (h : t.size ≤ s.size) : ((s.extract 0 t.size).toList == t.toList) = hp s t := by
  rw [Lib.toList_data, Lib.toList_data, Lib.extract_data, hp, List.drop_zero, Nat.sub_zero]
  rw [Bool.eq_iff_iff, beq_iff_eq, List.isPrefixOf_iff_prefix, List.prefix_iff_eq_take]
  have : t.data.toList.length = t.size := rfl
  rw [this]
  exact ⟨fun h => h.symm, fun h => h.symm⟩
theorem hp_no {s t : ByteArray} (h : ¬ t.size ≤ s.size) : hp s t = false := by
  rw [hp]
  cases hb : t.data.toList.isPrefixOf s.data.toList with
  | false => rfl
  | true =>
    rw [List.isPrefixOf_iff_prefix] at hb
    exact absurd hb.length_le h

set_option maxHeartbeats 400000 in
theorem hp25 (s t : ByteArray) (w : World) (hs : s.size ≤ 4194304) (ht : t.size ≤ 4194304) : Calls Try.prog 25 #[.string s, .string t] w (RetV w (.bool (hp s t))) := by
  by_cases h : t.size ≤ s.size
  · go_enter Try.func25, Try.ntmps25
    go_wp2
    go_ret
    exact ⟨by rw [← hp_yes h]; rfl, rfl⟩
  · go_enter Try.func25, Try.ntmps25
    go_wp2
    go_ret
    exact ⟨by rw [hp_no h]; rfl, rfl⟩

theorem hp21 (s t : ByteArray) (w : World) (hs : s.size ≤ 4194304) (ht : t.size ≤ 4194304) : Calls Try.prog 21 #[.string s, .string t] w (RetV w (.bool (hp s t))) := by
  go_enter Try.func21, Try.ntmps21
  go_wp2_with (go_at_call 25; refine (hp25 s t _ hs ht).mono ?_; rintro e _ ⟨rfl, rfl⟩)
  go_ret
  exact ⟨rfl, rfl⟩

/-! ### The scanner as a plain function -/
structure Sc where
  st : Nat
  q : UInt8
  op : Int
  bs : List UInt8
  sn : Int
  out : List (Int × List UInt8)

def begS (n : Int) (s : Sc) : Sc := if s.sn = 0 then { s with bs := [], sn := n } else s

/-- Behind a '-': does a comment open? -/
def dashC (t : List UInt8) : Bool := match t with
  | [] => false
  | d :: r => d == 45 && (match r with | [] => true | z :: _ => decide (z ≤ 32))

/-- One token of the scanner: what it becomes; what is left of the line behind c. -/
def stepS (n : Int) (s : Sc) (c : UInt8) (t : List UInt8) : Sc × List UInt8 :=
  if s.st = 1 then
    if c = 42 ∧ t.head? = some 47 then ({ s with st := 0, bs := s.bs ++ [42, 47] }, t.tail) else ({ s with bs := s.bs ++ [c] }, t)
  else if s.st = 2 then
    if c = 92 ∧ s.q ≠ 96 ∧ t ≠ [] then ({ s with bs := s.bs ++ [c, t.headD 0] }, t.tail)
    else if c = s.q then ({ s with st := 0, bs := s.bs ++ [c] }, t)
    else ({ s with bs := s.bs ++ [c] }, t)
  else
    if c = 35 ∨ (c = 45 ∧ dashC t = true) then ({ s with bs := s.bs ++ c :: t }, [])
    else if c = 47 ∧ t.head? = some 42 then
      if t.tail.head? = some 33 then ({ begS n s with st := 1, op := n, bs := (begS n s).bs ++ [47, 42] }, t.tail) else ({ s with st := 1, op := n, bs := s.bs ++ [47, 42] }, t.tail)
    else if c = 59 then ({ s with bs := [], sn := 0, out := if s.sn = 0 then s.out else s.out ++ [(s.sn, s.bs ++ [59])] }, t)
    else if c = 32 ∨ c = 9 then ({ s with bs := s.bs ++ [c] }, t)
    else if c = 39 ∨ c = 34 ∨ c = 96 then ({ begS n s with st := 2, q := c, op := n, bs := (begS n s).bs ++ [c] }, t)
    else ({ begS n s with bs := (begS n s).bs ++ [c] }, t)

def scanF (n : Int) : Nat → Sc → List UInt8 → Sc
  | 0, s, _ => s
  | _ + 1, s, [] => s
  | f + 1, s, c :: t => scanF n f (stepS n s c t).1 (stepS n s c t).2

theorem stepS_len (n : Int) (s : Sc) (c : UInt8) (t : List UInt8) : (stepS n s c t).2.length ≤ t.length := by
  unfold stepS
  repeat' split
  all_goals simp

theorem scanF_fuel (n : Int) : ∀ (f g : Nat) (s : Sc) (l : List UInt8), l.length ≤ f → l.length ≤ g → scanF n f s l = scanF n g s l := by
  intro f
  induction f with
  | zero =>
    intro g s l hf hg
    have : l = [] := List.eq_nil_of_length_eq_zero (by omega)
    subst this
    cases g <;> rfl
  | succ f ih =>
    intro g s l hf hg
    cases l with
    | nil => cases g <;> rfl
    | cons c t =>
      cases g with
      | zero => simp at hg
      | succ g =>
        simp only [scanF]
        have := stepS_len n s c t
        exact ih g _ _ (by simp at hf; omega) (by simp at hg; omega)

/-- Whatever the fuel, from s over l the scanner ends in fin. -/
def Goes (n : Int) (s : Sc) (l : List UInt8) (fin : Sc) : Prop := ∀ f, l.length ≤ f → scanF n f s l = fin

theorem goes_start (n : Int) (s : Sc) (l : List UInt8) : Goes n s l (scanF n l.length s l) := fun f hf => scanF_fuel n f l.length s l hf (Nat.le_refl _)
theorem goes_end {n : Int} {s fin : Sc} (h : Goes n s [] fin) : fin = s := (h 0 (Nat.le_refl _)).symm
theorem goes_step {n : Int} {s fin : Sc} {c : UInt8} {t : List UInt8} (h : Goes n s (c :: t) fin) : Goes n (stepS n s c t).1 (stepS n s c t).2 fin := by
  intro f hf
  have h1 := h (t.length + 1) (by simp)
  simp only [scanF] at h1
  rw [← h1]
  exact scanF_fuel n f t.length _ _ hf (stepS_len n s c t)

end Go.Proofs.Qxb6625814a
