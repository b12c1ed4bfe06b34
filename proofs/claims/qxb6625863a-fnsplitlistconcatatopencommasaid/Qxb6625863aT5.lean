import Derived.Test.Qxb6625863aT4
import Derived.Laws.IdiomStrings
namespace Go.Proofs.Qxb6625863a
open Go.RowKit
set_option linter.unusedVariables false
set_option linter.unusedSimpArgs false

theorem Try.info5 : (Try.prog.info? 5).map (fun i => (i.zero, i.size, i.bytes)) = some (some (.int .u8 0), 1, 1) := by kernel_rfl

theorem bytes9 (s t : ByteArray) (w : World) (h0 : s.size ≤ maxLen) (h1 : t.size ≤ maxLen) : Calls Try.prog 9 #[.string s, .string t] w (RetB w (fun b => b = true → s.size + t.size ≤ 1048576)) := by
  unfold maxLen at h0 h1
  by_cases g : s.size ≤ 1048576 ∧ t.size ≤ 1048576 ∧ s.size + t.size ≤ 1048576
  · obtain ⟨g0, g1, g2⟩ := g
    go_enter Try.func9, Try.ntmps9
    go_wp2
    go_ret
    exact ⟨true, rfl, rfl, fun _ => g2⟩
  · go_enter Try.func9, Try.ntmps9
    go_wp2
    all_goals go_ret
    all_goals first | exact ⟨false, rfl, rfl, by simp⟩ | exact ⟨true, rfl, rfl, fun _ => by omega⟩

def ERel (w : World) (field : ByteArray) (X : Bool × Bool) (i : Value) (wr : World) : Prop := w = wr ∧ ∃ k : Nat, k ≤ field.size ∧ i = .int .i64 k ∧ Hid (endS false false (field.data.toList.drop k) = X)

theorem end_q {c : UInt8} {t : List UInt8} (h : c = 34) : endS false false (c :: t) = endS true false t := by
  rw [endS, if_neg (fun e => absurd e.1 (by decide)), if_pos h]; rfl
theorem end_o {c : UInt8} {t : List UInt8} (h : c ≠ 34) : endS false false (c :: t) = endS false false t := by
  rw [endS, if_neg (fun e => absurd e.1 (by decide)), if_neg h]

set_option maxRecDepth 100000 in
set_option maxHeartbeats 1000000 in
theorem ends10 (field : ByteArray) (w : World) (hs : field.size ≤ 2097152) : Calls Try.prog 10 #[.string field] w (RetB w (fun b => b = true → endS false false field.data.toList = (false, false))) := by
  obtain ⟨X, hX⟩ : ∃ X, endS false false field.data.toList = X := ⟨_, rfl⟩
  have HR : ERel w field X (.int .i64 0) w := ⟨rfl, 0, Nat.zero_le _, rfl, hX⟩
  rw [hX]
  clear hX
  go_enter Try.func10, Try.ntmps10
  go_wp2_with fail
  go_loopw [3, 4, 5] (fun i _ _ wr => ERel w field X i wr) (fun i _ _ _ => field.size - (intOf i).toNat)
  case atStart => exact HR
  case round =>
    clear HR
    obtain ⟨rfl, k, hk, rfl, HX⟩ := hrel
    by_cases hlt : k < field.size
    · by_cases h34 : field[k] = 34
      · have t34 : ((field[k].toNat : Int) == 34) = true := b_yes h34
        obtain ⟨j1, j2, _⟩ := sp_jump (Nat.le_refl k) hlt h34
        have c13 := fun w => quoted13 field (k + 1) ((k : Int) + 1) rfl w hs (by omega) _ rfl
        cases hb : qEnd (field.data.toList.drop (k + 1)) with
        | none =>
          have e : qx field (k + 1) = (field.size, false) := by unfold qx; rw [hb]
          rw [e] at c13
          clear hb e HX h34 j1 j2
          dsimp only at c13
          go_wp2_with fail
          refine (c13 _).mono ?_
          rintro e _ ⟨rfl, rfl⟩
          go_wp2
          go_ret
          exact ⟨false, rfl, rfl, by simp⟩
        | some e =>
          obtain ⟨x, hx⟩ : ∃ x, x = k + 1 + e := ⟨_, rfl⟩
          have e2 : qx field (k + 1) = (x, true) := by unfold qx; rw [hb, hx]
          have HX2 : Hid (endS false false (field.data.toList.drop x) = X) := by
            show _ = _
            have h := HX.out
            rw [drop_at hlt, end_q h34, end_quoted _ _ e (Nat.le_refl _) hb, List.drop_drop, ← hx] at h
            exact h
          rw [e2] at c13 j1 j2
          dsimp only at c13 j1 j2
          clear hb e2 HX h34 hx
          go_wp2_with fail
          refine (c13 _).mono ?_
          rintro e _ ⟨rfl, rfl⟩
          go_wp2
          go_roundw
          case rel => exact ⟨rfl, x, j2, rfl, HX2⟩
          case measure => simp [intOf]; omega
      · have t34 : ((field[k].toNat : Int) == 34) = false := b_no h34
        have HX2 : Hid (endS false false (field.data.toList.drop (k + 1)) = X) := by
          show _ = _
          have h := HX.out
          rw [drop_at hlt, end_o h34] at h
          exact h
        clear HX h34
        go_wp2
        go_roundw
        case rel => exact ⟨rfl, k + 1, hlt, by go_num, HX2⟩
        case measure => simp [intOf]; omega
    · have e : X = (false, false) := by
        have h := HX.out
        rw [drop_end hlt] at h
        exact h.symm
      clear HX
      have HE : Hid (X = (false, false)) := e
      clear e
      go_wp2
      go_ret
      exact ⟨true, rfl, rfl, fun _ => HE.out⟩

/-! ### Joining -/
def jpre (out : List (List UInt8)) : List UInt8 := joinF out
theorem join_snoc (x : List UInt8) : ∀ (l : List (List UInt8)), l ≠ [] → joinF (l ++ [x]) = joinF l ++ 44 :: x := by
  intro l
  induction l with
  | nil => intro h; exact absurd rfl h
  | cons y t ih =>
    intro _
    cases t with
    | nil => simp [joinF]
    | cons z r =>
      have := ih (by simp)
      simp only [List.cons_append, joinF] at this ⊢
      rw [this]; simp

/-- The buffer: the call's own bytes bs. -/
def Buf (w : World) (B : Nat) (v : Value) (bs : List UInt8) : Prop := w.ownsRow B 5 1 v bs.length (Lib.byteCells bs)
theorem Buf.str_add {w' : World} {B : Nat} {v' : Value} {bs : List UInt8} {s : ByteArray} (h : w'.ownsRow B 5 1 v' (bs.length + s.size) (Lib.byteCells bs ++ Lib.strCells s)) : Buf w' B v' (bs ++ s.data.toList) := by
  have hb2 : (bs ++ s.data.toList).length = bs.length + s.size := by rw [List.length_append, Array.length_toList]; rfl
  have hb3 : Lib.byteCells (bs ++ s.data.toList) = Lib.byteCells bs ++ Lib.strCells s := by rw [Lib.byteCells_append]; rfl
  unfold Buf
  rw [hb2, hb3]; exact h
theorem Buf.byte_add {w' : World} {B : Nat} {v' : Value} {bs : List UInt8} {c : UInt8} (h : w'.ownsRow B 5 1 v' (bs.length + 1) (Lib.byteCells bs ++ [.int .u8 (c.toNat : Int)])) : Buf w' B v' (bs ++ [c]) := by
  have hb2 : (bs ++ [c]).length = bs.length + 1 := by simp
  have hb3 : Lib.byteCells (bs ++ [c]) = Lib.byteCells bs ++ [.int .u8 (c.toNat : Int)] := by simp [Lib.byteCells]
  unfold Buf
  rw [hb2, hb3]; exact h
theorem Buf.str {w : World} {B : Nat} {a : Option Addr} {c : Nat} {bs : List UInt8} (h : Buf w B (.slice a bs.length c) bs) : (convert 30 9 (.slice a bs.length c)).run Try.prog w = .ok (.string ⟨bs.toArray⟩) w := by
  rcases h.2 with ⟨h1, h2⟩ | ⟨g, cap, cur, e1, hg, hh, rest⟩
  · have : bs = [] := List.eq_nil_of_length_eq_zero h2
    subst this
    simp at h1
    obtain ⟨rfl, rfl⟩ := h1
    show (convert 30 9 (.slice none 0 0)).run Try.prog w = _
    rw [run_convert_bytes_string w 30 9 5 none 0 0 Try.underlying30 Try.underlying5 Try.underlying9]
    rfl
  · simp at e1
    obtain ⟨rfl, rfl⟩ := e1
    refine run_convert_bytes_back w 30 9 5 ⟨g, 0, none⟩ c bs Try.underlying30 Try.underlying5 Try.underlying9 ?_
    intro j hj
    exact h.cells (g := g) rfl j (.int .u8 (bs[j].toNat : Int)) (by simp [Lib.byteCells, List.getElem?_eq_getElem hj])

end Go.Proofs.Qxb6625863a
