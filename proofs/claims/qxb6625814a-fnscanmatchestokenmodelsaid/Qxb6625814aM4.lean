import Derived.Test.Qxb6625814aM3
import Derived.Deep.Cut
import Derived.Deep.CutRange
import Derived.Deep.CutBlock
import Derived.Deep.DeepCutAuto
import Derived.Laws.IdiomStrings
namespace Go.Proofs.Qxb6625814a
open Go.RowKit
set_option linter.unusedVariables false

/-- The buffer: the call's own bytes bs. -/
def Buf (w : World) (B : Nat) (v : Value) (bs : List UInt8) : Prop := w.ownsRow B 5 1 v bs.length (Lib.byteCells bs)

/-- An owned row stands where a row of another type has grown. -/
theorem own_grown {w w' : World} {B B' t t' k k' m m' : Nat} {v v0 : Value} {xs xs' : List Value} (h : w.ownsRow B t k v m xs) (hg : w.grownBy w' v0.ownBlock) (ho : w.ownsRow B' t' k' v0 m' xs') (ht : t ≠ t') : w'.ownsRow B t k v m xs := by
  refine ⟨h.1, ?_⟩
  rcases h.2 with hn' | ⟨g, cap, cur, e1, hgg, hh, rest⟩
  · exact .inl hn'
  · refine .inr ⟨g, cap, cur, e1, hgg, ?_, rest⟩
    rw [hg.block g (lt_of_block hh) ?_]
    · exact hh
    · intro e
      rcases ho.2 with ⟨rfl, _⟩ | ⟨g0, cap0, cur0, rfl, _, hh0, _⟩
      · simp [Value.ownBlock] at e
      · simp only [Value.ownBlock, Option.some.injEq] at e
        subst e
        rw [hh] at hh0
        simp at hh0
        exact ht hh0.2

/-- Cut to nothing. -/
theorem Buf.cut {w : World} {B : Nat} {a : Option Addr} {m c : Nat} {bs : List UInt8} (h : Buf w B (.slice a m c) bs) : Buf w B (.slice a 0 c) [] := by
  refine ⟨by simp [Lib.byteCells], ?_⟩
  rcases h.2 with ⟨h1, h2⟩ | ⟨g, cap, cur, e1, hg, hh, h3, h4, h5, h6⟩
  · left
    simp at h1
    simp [h1]
  · right
    simp at e1
    exact ⟨g, cap, cur, by simp [e1], hg, hh, Nat.zero_le _, h4, h5, by simp [Lib.byteCells]⟩

/-- string(buf). -/
theorem Buf.str {w : World} {B : Nat} {a : Option Addr} {c : Nat} {bs : List UInt8} (h : Buf w B (.slice a bs.length c) bs) (w' : World) (hk : ∀ k : Nat, w'.heap[k]? = w.heap[k]?) : (convert 35 9 (.slice a bs.length c)).run Try.prog w' = .ok (.string ⟨bs.toArray⟩) w' := by
  rcases h.2 with ⟨h1, h2⟩ | ⟨g, cap, cur, e1, hg, hh, rest⟩
  · have : bs = [] := List.eq_nil_of_length_eq_zero h2
    subst this
    simp at h1
    obtain ⟨rfl, rfl⟩ := h1
    show (convert 35 9 (.slice none 0 0)).run Try.prog w' = _
    rw [run_convert_bytes_string w' 35 9 5 none 0 0 Try.underlying35 Try.underlying5 Try.underlying9]
    rfl
  · simp at e1
    obtain ⟨rfl, rfl⟩ := e1
    refine run_convert_bytes_back w' 35 9 5 ⟨g, 0, none⟩ c bs Try.underlying35 Try.underlying5 Try.underlying9 ?_
    intro j hj
    have hcw : w'.cell? (Addr.add ⟨g, 0, none⟩ j) = w.cell? (Addr.add ⟨g, 0, none⟩ j) := World.cell?_of_block (a := Addr.add ⟨g, 0, none⟩ j) (hk _)
    have := h.cells (g := g) rfl j (.int .u8 (bs[j].toNat : Int)) (by simp [Lib.byteCells, List.getElem?_eq_getElem hj])
    exact hcw.trans this

end Go.Proofs.Qxb6625814a
