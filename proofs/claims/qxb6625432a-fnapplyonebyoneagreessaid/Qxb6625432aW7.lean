import Derived.Test.Qxb6625432aW6
namespace Go.Proofs.Qxb6625432a
open Go.RowKit
set_option linter.unusedVariables false

/-! ### The plain law: what applying options comes to -/
theorem optAt_none {ss : List ByteArray} {fs : List Bool} {i : Nat} : optAt ss fs i = none ↔ fb fs i = true := by
  unfold optAt
  by_cases h : fb fs i = true <;> simp [h]

theorem names_take {ss : List ByteArray} {fs : List Bool} : ∀ (k : Nat), k ≤ ss.length → (∀ i, i < k → fb fs i = false) → ((optsOf ss fs).take k).filterMap id = ss.take k := by
  intro k
  induction k with
  | zero => intros; simp
  | succ k ih =>
    intro hk h
    have hlt : k < ss.length := by omega
    have hs : (optsOf ss fs).getD k none = some (ss.getD k ByteArray.empty) := by
      rw [optsOf_get _ _ _ hlt]; unfold optAt; rw [if_neg (by rw [h k (by omega)]; decide)]
    rw [names_succ (by rw [optsOf_length]; exact hlt) hs, ih (by omega) (fun i hi => h i (by omega)), List.take_succ_eq_append_getElem hlt]
    simp [hlt]

theorem applied_fr {ss : List ByteArray} {fs : List Bool} {k : Nat} {f : Bool} {names : List ByteArray} (h : Applied (optsOf ss fs) k f names) : FR fs ss.length k ∧ f = decide (k < ss.length) ∧ names = ss.take k := by
  obtain ⟨h1, h2, h3, h4, h5⟩ := h
  rw [optsOf_length] at h1 h4 h5
  have g3 : ∀ i, i < k → fb fs i = false := fun i hi => by
    have := h3 i hi
    rw [optsOf_get _ _ _ (by omega)] at this
    cases hf : fb fs i with
    | false => rfl
    | true => exact absurd (optAt_none.2 hf) this
  refine ⟨⟨h1, g3, fun hk => ?_⟩, ?_, by rw [h2]; exact names_take k h1 g3⟩
  · cases f with
    | false => have := h5 rfl; omega
    | true =>
      have := (h4 rfl).2
      rw [optsOf_get _ _ _ hk] at this
      exact optAt_none.1 this
  · cases f with
    | false => have := h5 rfl; simp; omega
    | true => have := (h4 rfl).1; simp; omega

theorem getD_take {α : Type} (l : List α) (n i : Nat) (d : α) (h : i < n) : (l.take n).getD i d = l.getD i d := by simp [h]
theorem getD_drop {α : Type} (l : List α) (n i : Nat) (d : α) : (l.drop n).getD i d = l.getD (n + i) d := by simp

theorem applied_stop {os : List (Option ByteArray)} {cut k : Nat} {names : List ByteArray} (h : Applied (os.take cut) k true names) : Applied os k true names := by
  obtain ⟨h1, h2, h3, h4, h5⟩ := h
  have hl := h4 rfl
  have hkk : k < cut ∧ k < os.length := by have := hl.1; simp at this; omega
  refine ⟨by omega, ?_, fun i hi => ?_, fun _ => ⟨hkk.2, ?_⟩, fun h => by cases h⟩
  · rw [h2, List.take_take, Nat.min_eq_left (by omega)]
  · have := h3 i hi; rwa [getD_take _ _ _ _ (by omega)] at this
  · have := hl.2; rwa [getD_take _ _ _ _ hkk.1] at this

theorem applied_join {os : List (Option ByteArray)} {cut ka kb : Nat} {f : Bool} {na nb : List ByteArray} (hc : cut ≤ os.length) (h : Applied (os.take cut) ka false na) (g : Applied (os.drop cut) kb f nb) : Applied os (ka + kb) f (na ++ nb) := by
  obtain ⟨h1, h2, h3, h4, h5⟩ := h
  obtain ⟨g1, g2, g3, g4, g5⟩ := g
  have hka : ka = cut := by have := h5 rfl; simp at this; omega
  subst hka
  simp only [List.length_drop] at g1 g4 g5
  refine ⟨by omega, ?_, fun i hi => ?_, fun hf => ?_, fun hf => ?_⟩
  · rw [h2, g2, List.take_take, Nat.min_self, ← List.filterMap_append, List.take_add]
  · rcases Nat.lt_or_ge i ka with hlt | hge
    · have := h3 i hlt; rwa [getD_take _ _ _ _ hlt] at this
    · have := g3 (i - ka) (by omega); rw [getD_drop, show ka + (i - ka) = i by omega] at this; exact this
  · have := g4 hf
    rw [getD_drop] at this
    exact ⟨by omega, this.2⟩
  · have := g5 hf; omega

theorem applied_nil {os : List (Option ByteArray)} : Applied (os.take 0) 0 false [] := ⟨Nat.zero_le _, by simp, fun i hi => absurd hi (Nat.not_lt_zero _), (fun h => by cases h), fun _ => by simp⟩

theorem applied_uniq {os : List (Option ByteArray)} {k j : Nat} {f g : Bool} {na nb : List ByteArray} (h : Applied os k f na) (h' : Applied os j g nb) : k = j ∧ f = g ∧ na = nb := by
  obtain ⟨h1, h2, h3, h4, h5⟩ := h
  obtain ⟨g1, g2, g3, g4, g5⟩ := h'
  have key : k = j := by
    rcases Nat.lt_trichotomy k j with hlt | rfl | hlt
    · have := g3 k hlt
      cases f with
      | false => have := h5 rfl; omega
      | true => exact absurd (h4 rfl).2 this
    · rfl
    · have := h3 j hlt
      cases g with
      | false => have := g5 rfl; omega
      | true => exact absurd (g4 rfl).2 this
  subst key
  refine ⟨rfl, ?_, h2.trans g2.symm⟩
  cases f <;> cases g
  · rfl
  · have := h5 rfl; have := g4 rfl; omega
  · have := h4 rfl; have := g5 rfl; omega
  · rfl

/-! ### Readings carried on -/
theorem RdS.keep {w w' : World} {B : Nat} {a : Option Addr} {ss : List ByteArray} (h : RdS w a ss) (hb : Below B w w') (hB : w.heap.size ≤ B) : RdS w' a ss := fun i hi => by
  obtain ⟨b, o, e1, hc⟩ := h i hi
  have := World.block_lt_of_cell? w _ hc
  exact ⟨b, o, e1, (hb.cell (p := ⟨b, o + i, none⟩) (Nat.lt_of_lt_of_le this hB)).trans hc⟩

theorem RdB.keep {w w' : World} {B : Nat} {a : Option Addr} {ss : List Bool} (h : RdB w a ss) (hb : Below B w w') (hB : w.heap.size ≤ B) : RdB w' a ss := fun i hi => by
  obtain ⟨b, o, e1, hc⟩ := h i hi
  have := World.block_lt_of_cell? w _ hc
  exact ⟨b, o, e1, (hb.cell (p := ⟨b, o + i, none⟩) (Nat.lt_of_lt_of_le this hB)).trans hc⟩

theorem own_nil {w : World} {lo : Nat} {e : TypeId} {size n c : Nat} {a : Option Addr} {xs : List Value} (h : w.ownsRow lo e size (.slice a n c) n xs) : a = none → c = 0 := by
  rintro rfl
  rcases h.2 with ⟨h', _⟩ | ⟨g, cap, cur, h', _⟩
  · cases h'; rfl
  · cases h'

/-- A clone of a slice of strings, of bools: all that is wanted of it. -/
def RetClS (w : World) (ss : List ByteArray) (e : Ending) (w' : World) : Prop :=
  ∃ a c, e = .returned (.slice a ss.length c) ∧ w'.ownsRow w.heap.size 9 1 (.slice a ss.length c) ss.length (ss.map Value.string) ∧ RdS w' a ss ∧ (a = none → c = 0) ∧ Below w.heap.size w w'
def RetClB (w : World) (fs : List Bool) (e : Ending) (w' : World) : Prop :=
  ∃ a c, e = .returned (.slice a fs.length c) ∧ RdB w' a fs ∧ Below w.heap.size w w'

theorem clS (a : Option Addr) (c : Nat) (s : List ByteArray) (w : World) (hn : a = none → c = 0) (h0 : RdS w a s) (l0 : s.length ≤ 1048576) :
    Calls Try.prog 7 #[.slice a s.length c] w (RetClS w s) := by
  refine (cloneS_any a c s w hn h0 l0).mono fun e w' h => ?_
  obtain ⟨v, rfl, hown, hb⟩ := h
  obtain ⟨a', c', rfl, hrd, _⟩ := Rw.strs ⟨hown, fun k hk => (hown.lt k hk).2⟩
  have hown' : w'.ownsRow w.heap.size 9 1 (.slice a' s.length c') s.length (s.map Value.string) := by simpa using hown
  exact ⟨a', c', rfl, hown', hrd, own_nil hown', hb⟩

theorem clB (a : Option Addr) (c : Nat) (s : List Bool) (w : World) (hn : a = none → c = 0) (h0 : RdB w a s) (l0 : s.length ≤ 1048576) :
    Calls Try.prog 8 #[.slice a s.length c] w (RetClB w s) := by
  refine (cloneB_any a c s w hn h0 l0).mono fun e w' h => ?_
  obtain ⟨v, rfl, hown, hb⟩ := h
  obtain ⟨a', c', rfl, hrd, _⟩ := Rw.bools ⟨hown, fun k hk => (hown.lt k hk).2⟩
  exact ⟨a', c', rfl, hrd, hb⟩

/-- 'apply', the slice's length by an equation. -/
theorem zapply (base p top : Nat) (ao : Option Addr) (c len : Nat) (os : List (Option ByteArray)) (hlen : os.length = len) (ss : List ByteArray) (n : Nat) (w : World) (hO : RdO w top ao os) (hC : Cols w base p ss n)
    (htop : top ≤ base) (hbs : base ≤ w.heap.size) (lo : len ≤ 1048576) (ls : ss.length ≤ 2097152) (ln : n ≤ 2097152) :
    Calls Try.prog 12 #[.pointer (some ⟨p, 0, none⟩), .slice ao len c] w (RetApply w base p os ss n) := by
  subst hlen
  exact zapply12 base p top ao c os ss n w hO hC htop hbs lo ls ln

/-- The options that a cut leads to. -/
theorem RdO.take {w : World} {top : Nat} {ao : Option Addr} {os : List (Option ByteArray)} (h : RdO w top ao os) (cut : Nat) : RdO w top ao (os.take cut) := fun i hi => by
  simp at hi
  obtain ⟨b, o, u, h1, h2, h3, h4⟩ := h i (by omega)
  exact ⟨b, o, u, h1, h2, h3, by rw [getD_take _ _ _ _ (by omega)]; exact h4⟩
theorem RdO.drop {w : World} {top g : Nat} {ao : Option Addr} {os : List (Option ByteArray)} (h : RdO w top (some ⟨g, 0, none⟩) os) (cut : Nat) (hao : cut < os.length → ao = some ⟨g, cut, none⟩) : RdO w top ao (os.drop cut) := fun i hi => by
  simp at hi
  obtain ⟨b, o, u, h1, h2, h3, h4⟩ := h (cut + i) (by omega)
  cases h1
  refine ⟨g, cut, u, hao (by omega), h2, ?_, by rw [getD_drop]; exact h4⟩
  rwa [Nat.zero_add] at h3

end Go.Proofs.Qxb6625432a
