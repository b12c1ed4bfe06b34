import Derived.Test.Qxb6625432aW4
namespace Go.Proofs.Qxb6625432a
open Go.RowKit
set_option linter.unusedVariables false

/-- It returns an error that is not nil; nothing that was there has turned. -/
def RetErr (w : World) (e : Ending) (w' : World) : Prop := ∃ g, e = .returned (.iface 50 (.pointer (some ⟨g, 0, none⟩))) ∧ Below w.heap.size w w'

theorem refuse22 (p : Value) (w : World) : Calls Try.prog 22 #[p] w (RetErr w) := by
  go_enter Try.func22, Try.ntmps22
  go_wp2
  go_ret
  exact ⟨_, rfl, (Below.refl _ _).alloc (Nat.le_refl _) _⟩

/-- An option: none refuses, some s adds the column s; its box lies below top. -/
def IsOpt (w : World) (top : Nat) (u : Value) (o : Option ByteArray) : Prop :=
  (o = none ∧ u = .func (.func 22) #[] #[]) ∨ ∃ s b, o = some s ∧ b < top ∧ u = .func (.func 24) #[] #[.pointer (some ⟨b, 0, none⟩)] ∧ w.heap[b]? = some (.cells #[.string s] 9 (0, 0))

theorem IsOpt.keep {w w' : World} {top B : Nat} {u : Value} {o : Option ByteArray} (h : IsOpt w top u o) (hb : Below B w w') (hB : top ≤ B) : IsOpt w' top u o := by
  rcases h with h | ⟨s, b, h1, h2, h3, h4⟩
  · exact .inl h
  · exact .inr ⟨s, b, h1, h2, h3, (hb.block b (by omega)).trans h4⟩

/-- The slice value at ao reads as the options os; all lies below top. -/
def RdO (w : World) (top : Nat) (ao : Option Addr) (os : List (Option ByteArray)) : Prop :=
  ∀ i, i < os.length → ∃ b o u, ao = some ⟨b, o, none⟩ ∧ b < top ∧ w.cell? ⟨b, o + i, none⟩ = some u ∧ IsOpt w top u (os.getD i none)

theorem RdO.keep {w w' : World} {top B : Nat} {ao : Option Addr} {os : List (Option ByteArray)} (h : RdO w top ao os) (hb : Below B w w') (hB : top ≤ B) : RdO w' top ao os := by
  intro i hi
  obtain ⟨b, o, u, h1, h2, h3, h4⟩ := h i hi
  exact ⟨b, o, u, h1, h2, (hb.cell (p := ⟨b, o + i, none⟩) (by show b < B; omega)).trans h3, h4.keep hb hB⟩

/-- What applying options comes to: k of them, then the end or a refusal. -/
def Applied (os : List (Option ByteArray)) (k : Nat) (failed : Bool) (names : List ByteArray) : Prop :=
  k ≤ os.length ∧ names = (os.take k).filterMap id ∧ (∀ i, i < k → os.getD i none ≠ none) ∧ (failed = true → k < os.length ∧ os.getD k none = none) ∧ (failed = false → k = os.length)

/-- An error value: is it one? -/
def ErrIs (failed : Bool) (v : Value) : Prop := (failed = false ∧ v = .nilIface) ∨ (failed = true ∧ ∃ g, v = .iface 50 (.pointer (some ⟨g, 0, none⟩)))

def RetApply (w : World) (base p : Nat) (os : List (Option ByteArray)) (ss : List ByteArray) (n : Nat) (e : Ending) (w' : World) : Prop :=
  ∃ k failed names v, e = .returned v ∧ ErrIs failed v ∧ Applied os k failed names ∧ Cols w' base p (ss ++ names) (n + k) ∧ Below base w w'

theorem names_len (os : List (Option ByteArray)) (k : Nat) : ((os.take k).filterMap id).length ≤ k := by
  have h1 := List.length_filterMap_le id (os.take k)
  have h2 := List.length_take_le k os
  omega

theorem names_succ {os : List (Option ByteArray)} {k : Nat} {s : ByteArray} (h : k < os.length) (hs : os.getD k none = some s) : (os.take (k + 1)).filterMap id = (os.take k).filterMap id ++ [s] := by
  rw [List.take_succ_eq_append_getElem h, List.filterMap_append]
  have : os[k] = some s := by simpa [List.getD, h] using hs
  simp [this]

set_option maxHeartbeats 1000000 in
theorem apply21 (base p top : Nat) (ao : Option Addr) (c : Nat) (os : List (Option ByteArray)) (ss : List ByteArray) (n : Nat) (w : World) (hO : RdO w top ao os) (hC : Cols w base p ss n)
    (htop : top ≤ base) (hbs : base ≤ w.heap.size) (lo : os.length ≤ 1048576) (ls : ss.length ≤ 2097152) (ln : n ≤ 2097152) :
    Calls Try.prog 21 #[.pointer (some ⟨p, 0, none⟩), .slice ao os.length c] w (RetApply w base p os ss n) := by
  go_enter Try.func21, Try.ntmps21
  go_wp2_with fail
  go_loopw [6, 7, 10] (fun _ _ i wr => ∃ k : Nat, k ≤ os.length ∧ i = .int .i64 k ∧ Hid (∀ i, i < k → os.getD i none ≠ none) ∧ Cols wr base p (ss ++ (os.take k).filterMap id) (n + k) ∧ Below base w wr)
    (fun _ _ i _ => os.length - (intOf i).toNat)
  case atStart => exact ⟨0, Nat.zero_le _, rfl, fun i hi => absurd hi (Nat.not_lt_zero _), by simpa using hC, Below.refl _ _⟩
  case round =>
    obtain ⟨k, hk, rfl, H, hCr, hbel⟩ := hrel
    by_cases hlt : k < os.length
    · obtain ⟨b, o, u, rfl, hbt, hcell, hop⟩ := hO.keep hbel htop k hlt
      have hnl := names_len os k
      have hsz := hbel.size
      rcases hop with ⟨hnone, rfl⟩ | ⟨s, bx, hsome, hbx, rfl, hbox⟩
      · have HN : Hid (os.getD k none = none) := hnone
        clear hnone
        go_wp2_with (go_at_call 22; refine (refuse22 _ _).mono ?_; rintro e w1 ⟨g, rfl, hb1⟩)
        go_ret
        exact ⟨k, true, _, _, rfl, .inr ⟨rfl, g, rfl⟩, ⟨hk, rfl, H.out, fun _ => ⟨hlt, HN.out⟩, fun h => by cases h⟩, hCr.keep hb1 (Nat.le_refl _), hbel.trans (hb1.mono (by omega))⟩
      · have HS : Hid (os.getD k none = some s) := hsome
        clear hsome
        go_wp2_with (go_at_call 24; refine (app24 base p bx _ _ s _ hCr hbox (by omega) (by omega) (by simp; omega) (by omega)).mono ?_; rintro e w1 ⟨rfl, hC1, hb1⟩)
        go_roundw
        case rel =>
          refine ⟨k + 1, by omega, by go_num, fun i hi => ?_, ?_, hbel.trans hb1⟩
          · rcases Nat.lt_or_ge i k with h' | h'
            · exact H.out i h'
            · rw [show i = k by omega, HS.out]; simp
          · rw [names_succ hlt HS.out, ← List.append_assoc, ← Nat.add_assoc]; exact hC1
        case measure => simp [intOf]; omega
    · obtain rfl : k = os.length := by omega
      go_wp2
      go_ret
      exact ⟨os.length, false, _, _, rfl, .inl ⟨rfl, rfl⟩, ⟨Nat.le_refl _, rfl, H.out, (fun h => by cases h), fun _ => rfl⟩, hCr, hbel⟩

theorem zapply12 (base p top : Nat) (ao : Option Addr) (c : Nat) (os : List (Option ByteArray)) (ss : List ByteArray) (n : Nat) (w : World) (hO : RdO w top ao os) (hC : Cols w base p ss n)
    (htop : top ≤ base) (hbs : base ≤ w.heap.size) (lo : os.length ≤ 1048576) (ls : ss.length ≤ 2097152) (ln : n ≤ 2097152) :
    Calls Try.prog 12 #[.pointer (some ⟨p, 0, none⟩), .slice ao os.length c] w (RetApply w base p os ss n) := by
  go_enter Try.func12, Try.ntmps12
  go_wp2_with (go_at_call 21; refine (apply21 base p top ao c os ss n _ hO hC htop hbs lo ls ln).mono ?_; rintro e w1 ⟨k, failed, names, v, rfl, h1, h2, h3, h4⟩)
  go_ret
  exact ⟨k, failed, names, v, rfl, h1, h2, h3, h4⟩

/-- A new column set. -/
def RetCols (w : World) (base : Nat) (ss : List ByteArray) (e : Ending) (w' : World) : Prop := ∃ p, e = .returned (.pointer (some ⟨p, 0, none⟩)) ∧ Cols w' base p ss 0 ∧ Below w.heap.size w w'

theorem newCols11 (base : Nat) (v : Value) (ss : List ByteArray) (w : World) (h : w.ownsRow base 9 1 v ss.length (ss.map Value.string)) (hb : base ≤ w.heap.size) :
    Calls Try.prog 11 #[v] w (RetCols w base ss) := by
  obtain ⟨a, c, rfl⟩ := own_shape h
  go_enter Try.func11, Try.ntmps11
  go_wp2
  go_ret
  exact ⟨w.heap.size, rfl, ⟨_, _, [], hb, heap_alloc_new w _, h.alloc _, World.ownsRow_nil _ _ _ _⟩, (Below.refl _ _).alloc (Nat.le_refl _) _⟩

/-- It returns a slice that reads as ss; the world stands. -/
def RetS (w : World) (ss : List ByteArray) (e : Ending) (w' : World) : Prop := ∃ a c, e = .returned (.slice a ss.length c) ∧ RdS w a ss ∧ w = w'

theorem names15 (base p : Nat) (ss : List ByteArray) (n : Nat) (w : World) (h : Cols w base p ss n) :
    Calls Try.prog 15 #[.pointer (some ⟨p, 0, none⟩)] w (RetS w ss) := by
  obtain ⟨v1, v2, vs, h1, h2, h3, h4⟩ := h
  obtain ⟨a, c, e1, hrd, _⟩ := Rw.strs (w := w) (lo := base) (hi := w.heap.size) (v := v1) (ss := ss) ⟨by simpa using h3, fun k hk => (h3.lt k hk).2⟩
  subst e1
  have c1 : w.cell? ⟨p, 0, none⟩ = some (.slice a ss.length c) := by simp [World.cell?, h2]
  go_enter Try.func15, Try.ntmps15
  go_wp2
  go_ret
  exact ⟨a, c, rfl, hrd, rfl⟩

theorem vlen16 (base p : Nat) (ss : List ByteArray) (n : Nat) (w : World) (h : Cols w base p ss n) :
    Calls Try.prog 16 #[.pointer (some ⟨p, 0, none⟩)] w fun e w' => e = .returned (.int .i64 n) ∧ w = w' := by
  obtain ⟨v1, v2, vs, h1, h2, h3, h4⟩ := h
  obtain ⟨a, c, rfl⟩ := own_shape h4
  have c1 : w.cell? ⟨p, 1, none⟩ = some (.slice a n c) := by simp [World.cell?, h2]
  go_enter Try.func16, Try.ntmps16
  go_wp2
  go_ret
  exact ⟨rfl, rfl⟩

end Go.Proofs.Qxb6625432a
