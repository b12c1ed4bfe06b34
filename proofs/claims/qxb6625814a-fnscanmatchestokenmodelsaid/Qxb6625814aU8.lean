import Derived.Test.Qxb6625814aU7
import Derived.Test.Qxb6625814aU5
namespace Go.Proofs.Qxb6625814a
open Go.RowKit
set_option linter.unusedVariables false

theorem stepS_bs (n : Int) (s : Sc) (c : UInt8) (t : List UInt8) : (stepS n s c t).1.bs.length + (stepS n s c t).2.length ≤ s.bs.length + t.length + 1 := by
  have hb : (begS n s).bs.length ≤ s.bs.length := by unfold begS; split <;> simp
  unfold stepS
  repeat' split
  all_goals simp
  all_goals try omega
  all_goals (cases t <;> simp_all <;> omega)
theorem begS_out (n : Int) (s : Sc) : (begS n s).out = s.out := by unfold begS; split <;> rfl
theorem stepS_o (n : Int) (s : Sc) (c : UInt8) (t : List UInt8) : (stepS n s c t).1.out.length + (stepS n s c t).2.length ≤ s.out.length + t.length + 1 := by
  have hb := begS_out n s
  unfold stepS
  repeat' split
  all_goals simp [hb]
  all_goals try omega
theorem scanF_len (n : Int) : ∀ (f : Nat) (s : Sc) (l : List UInt8), (scanF n f s l).bs.length ≤ s.bs.length + l.length ∧ (scanF n f s l).out.length ≤ s.out.length + l.length := by
  intro f
  induction f with
  | zero => intro s l; simp [scanF]
  | succ f ih =>
    intro s l
    cases l with
    | nil => simp [scanF]
    | cons c t =>
      simp only [scanF]
      have := ih (stepS n s c t).1 (stepS n s c t).2
      have h1 := stepS_bs n s c t
      have h2 := stepS_o n s c t
      simp only [List.length_cons]
      omega

theorem scan9 (B p : Nat) (s : Sc) (line : ByteArray) (n : Int) (w : World) (hS : Sco w B p s) (ho : s.out = []) (hl : s.bs.length + line.size ≤ 2097152) (hBw : B ≤ w.heap.size) (hst : s.st ≤ 2) :
    Calls Try.prog 9 #[.pointer (some ⟨p, 0, none⟩), .string line, .int .i64 n] w (RetScan w B p (scanF n line.size s line.data.toList)) := by
  go_enter Try.func9, Try.ntmps9
  go_wp2_with fail
  refine (scan17 B p s line n w hS ho hl hBw hst).mono ?_
  rintro e w1 ⟨v, rfl, h1, h2, h3⟩
  go_wp2
  go_ret
  exact ⟨v, rfl, h1, h2, h3⟩

end Go.Proofs.Qxb6625814a
