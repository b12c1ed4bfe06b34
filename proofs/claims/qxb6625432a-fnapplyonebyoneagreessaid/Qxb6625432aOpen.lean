import Derived.Test.Qxb6625432aW7
import Derived.ProofKit
import Derived.OpenShut
import Derived.SliceStrings
import Derived.Deep.Grids
namespace Go.Proofs.Qxb6625432a
open Go.ChangeShapes Go.WideShapes Go.ChangeAt Go.RowKit

theorem spot_none {w : World} {a : Addr} {i : Nat} {u u0 : Value} (h0 : w.cell? (a.add 0) = some u0) (h : w.cell? (a.add i) = some u) : ∃ b o, a = ⟨b, o, none⟩ ∧ w.cell? ⟨b, o + i, none⟩ = some u := by
  obtain ⟨b, off, spot⟩ := a
  have hspot : spot = none := by simpa [Addr.add] using World.cell?_spot h0
  subst hspot
  exact ⟨b, off, rfl, by rw [← Go.WideShapes.add_plain]; exact h⟩

/-- A slice of strings among the arguments, opened. -/
theorem openS {H : Type} {enc : TypeId × Value → H} {W : World} {a : Option Addr} {len cap : Nat} {d : DataW H} {p : List MemPlace} (h : DataW.Trod enc Try.prog W 0 (fun _ => true) true 22 (.slice a len cap) d p) :
    ∃ ss : List ByteArray, len = ss.length ∧ (a = none → cap = 0) ∧ RdS W a ss ∧ (∀ i, (ss.getD i ByteArray.empty).size ≤ maxLen) ∧ ss.length ≤ maxLen := by
  obtain ⟨fuel, hf⟩ := h
  rcases open_strings Try.underlying22 Try.underlying9 (by kernel_rfl) hf with ⟨hcs, _⟩ | ⟨x, l, c, zs, hcs, _, hl, hm, hz, _, hcell, hwz⟩
  · simp [Value.cells] at hcs
    obtain ⟨rfl, rfl, rfl⟩ := hcs
    exact ⟨[], rfl, fun _ => rfl, fun i hi => absurd hi (Nat.not_lt_zero _), fun i => by simp [ByteArray.size], Nat.zero_le _⟩
  · simp [Value.cells] at hcs
    obtain ⟨rfl, rfl, rfl⟩ := hcs
    simp at hz
    have hlen : (zs.take len).length = len := by simp; omega
    refine ⟨zs.take len, hlen.symm, fun h => by (cases h), fun i hi => ?_, fun i => ?_, by omega⟩
    · rw [hlen] at hi
      obtain ⟨b, o, rfl, hc⟩ := spot_none (hcell 0 (by omega)) (hcell i (by omega))
      exact ⟨b, o, rfl, by rw [getD_take _ _ _ _ hi]; exact hc⟩
    · rcases Nat.lt_or_ge i len with hi | hi
      · rw [getD_take _ _ _ _ hi]
        have hi' : i < zs.length := by omega
        have : zs.getD i ByteArray.empty = zs[i] := by simp [hi']
        rw [this]
        exact hwz _ (List.getElem_mem _)
      · have : (zs.take len).getD i ByteArray.empty = ByteArray.empty := by
          simp [List.getElem?_eq_none (show (zs.take len).length ≤ i by omega)]
        rw [this]
        simp [ByteArray.size]

/-- A slice of bools among the arguments, opened. -/
theorem openB {H : Type} {enc : TypeId × Value → H} {W : World} {a : Option Addr} {len cap : Nat} {d : DataW H} {p : List MemPlace} (h : DataW.Trod enc Try.prog W 0 (fun _ => true) true 23 (.slice a len cap) d p) :
    ∃ fs : List Bool, len = fs.length ∧ (a = none → cap = 0) ∧ RdB W a fs ∧ fs.length ≤ maxLen := by
  obtain ⟨fuel, hf⟩ := h
  rcases Go.Deep.open_bools Try.underlying23 Try.underlying4 (by kernel_rfl) hf with ⟨hcs, _⟩ | ⟨x, l, c, B, hcs, _, hl, hm, _, hcell⟩
  · simp [Value.cells] at hcs
    obtain ⟨rfl, rfl, rfl⟩ := hcs
    exact ⟨[], rfl, fun _ => rfl, fun i hi => absurd hi (Nat.not_lt_zero _), Nat.zero_le _⟩
  · simp [Value.cells] at hcs
    obtain ⟨rfl, rfl, rfl⟩ := hcs
    have hlen : ((List.range len).map B).length = len := by simp
    refine ⟨(List.range len).map B, hlen.symm, fun h => by (cases h), fun i hi => ?_, by omega⟩
    rw [hlen] at hi
    obtain ⟨b, o, rfl, hc⟩ := spot_none (hcell 0 (by omega)) (hcell i (by omega))
    exact ⟨b, o, rfl, by rw [hc]; simp [hi]⟩

end Go.Proofs.Qxb6625432a
