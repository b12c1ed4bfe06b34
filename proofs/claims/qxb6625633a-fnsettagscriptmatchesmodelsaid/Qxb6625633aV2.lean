import Derived.Test.Qxb6625633aV1
namespace Go.Proofs.Qxb6625633a
open Go.RowKit
set_option linter.unusedVariables false

theorem asc_lt {zs : List Int} (h : Asc zs) : ∀ (d i : Nat), i + d + 1 < zs.length → zs.getD i 0 < zs.getD (i + d + 1) 0 := by
  intro d
  induction d with
  | zero => intro i hi; exact h i hi
  | succ d ih =>
    intro i hi
    have h1 := ih i (by omega)
    have h2 := h (i + d + 1) (by omega)
    rw [show i + (d + 1) + 1 = i + d + 1 + 1 by omega]
    omega

theorem asc_le {zs : List Int} (h : Asc zs) {i j : Nat} (hij : i ≤ j) (hj : j < zs.length) : zs.getD i 0 ≤ zs.getD j 0 := by
  rcases Nat.lt_or_ge i j with hlt | hge
  · have := asc_lt h (j - i - 1) i (by omega)
    rw [show i + (j - i - 1) + 1 = j by omega] at this
    omega
  · rw [show i = j by omega]; exact Int.le_refl _

theorem and_zero_u64 (y : Int) : bits .and .u64 y 0 = 0 := by
  show IntKind.u64.wrap ((BitVec.ofInt 64 y &&& BitVec.ofInt 64 0).toNat : Int) = 0
  have h : BitVec.ofInt 64 0 = 0#64 := by decide
  rw [h, BitVec.and_zero, IntKind.wrap_u64]
  decide
theorem and_zero_i64 (y : Int) : bits .and .i64 0 y = 0 := by
  show IntKind.i64.wrap ((BitVec.ofInt 64 0 &&& BitVec.ofInt 64 y).toNat : Int) = 0
  have h : BitVec.ofInt 64 0 = 0#64 := by decide
  rw [h, BitVec.zero_and, IntKind.wrap_i64]
  decide
theorem and_ones_i64 (n : Nat) (hn : n ≤ 1048576) : bits .and .i64 (-1) ((n : Int) / 2) = (n : Int) / 2 := by
  have e : ((n : Int) / 2) = ((n / 2 : Nat) : Int) := by omega
  rw [e]
  show IntKind.i64.wrap ((BitVec.ofInt 64 (-1) &&& BitVec.ofInt 64 ((n / 2 : Nat) : Int)).toNat : Int) = _
  have h : BitVec.ofInt 64 (-1) = BitVec.allOnes 64 := by decide
  rw [h, BitVec.allOnes_and, BitVec.ofInt_natCast, BitVec.toNat_ofNat, IntKind.wrap_i64, Nat.mod_eq_of_lt (by omega)]
  omega
theorem wrap_u64_id (x : Int) (h : 0 ≤ x ∧ x ≤ 18446744073709551615) : IntKind.u64.wrap x = x := by
  rw [IntKind.wrap_u64]; omega

/-- It returns the first place whose number is at least q; the world stands. -/
def RetSr (w : World) (zs : List Int) (q : Int) (e : Ending) (w' : World) : Prop :=
  ∃ i : Nat, e = .returned (.int .i64 i) ∧ w = w' ∧ i ≤ zs.length ∧ (∀ j, j < i → zs.getD j 0 < q) ∧ (∀ j, i ≤ j → j < zs.length → q ≤ zs.getD j 0)

set_option maxHeartbeats 400000 in
theorem search25 (a : Option Addr) (c : Nat) (zs : List Int) (q : Int) (w : World) (h : RdU w a zs) (hA : Asc zs) (l : zs.length ≤ 1048576) (hz : ∀ i, 0 ≤ zs.getD i 0 ∧ zs.getD i 0 ≤ 18446744073709551615) (hn : 0 < zs.length) :
    Calls Try.prog 25 #[.slice a zs.length c, .int .u64 q, .bool false] w (RetSr w zs q) := by
  have hA' : Hid (Asc zs) := hA
  have hz' : Hid (∀ i, 0 ≤ zs.getD i 0 ∧ zs.getD i 0 ≤ 18446744073709551615) := hz
  clear hA hz
  have hn' : ((zs.length : Int) == 0) = false := beq_eq_false_iff_ne.2 (by omega)
  go_enter Try.func25, Try.ntmps25
  go_wp2
  go_loop [8, 9, 10, 11] (fun b n _ _ => ∃ bb nn : Nat, 1 ≤ nn ∧ bb + nn ≤ zs.length ∧ b = .int .i64 bb ∧ n = .int .i64 nn ∧ Hid (∀ j, j < bb → zs.getD j 0 < q) ∧ Hid (∀ j, bb + nn ≤ j → j < zs.length → q ≤ zs.getD j 0)) (fun _ n _ _ => (intOf n).toNat)
  case atStart => exact ⟨0, zs.length, hn, by omega, rfl, rfl, (fun j hj => absurd hj (Nat.not_lt_zero _)), (fun j hj hj' => by omega)⟩
  case round =>
    obtain ⟨bb, nn, h1, h2, rfl, rfl, Hlo, Hhi⟩ := hrel
    by_cases hlt : 1 < nn
    · obtain ⟨b, o, x, rfl, hc1, Hx⟩ := h.get (bb + nn / 2) (by omega)
      have hw := wrap_u64_id x (by have hx := hz'.out (bb + nn / 2); rw [Hx.out] at hx; exact hx)
      have b1 := and_ones_i64 nn (by omega)
      have b2 := and_zero_u64
      have b3 := and_zero_i64
      by_cases hy : x < q
      · go_wp2
        go_round
        case rel =>
          refine ⟨bb + nn / 2, nn - nn / 2, by omega, by omega, by go_num, by go_num, fun j hj => ?_, fun j hj hj' => Hhi.out j (by omega) hj'⟩
          have := asc_le hA'.out (show j ≤ bb + nn / 2 by omega) (by omega)
          rw [Hx.out] at this
          omega
        case measure => simp [intOf]; omega
      · go_wp2
        go_round
        case rel =>
          refine ⟨bb, nn - nn / 2, by omega, by omega, by go_num, by go_num, Hlo.out, fun j hj hj' => ?_⟩
          have := asc_le hA'.out (show bb + nn / 2 ≤ j by omega) hj'
          rw [Hx.out] at this
          omega
        case measure => simp [intOf]; omega
    · obtain rfl : nn = 1 := by omega
      obtain ⟨b, o, x, rfl, hc1, Hx⟩ := h.get bb (by omega)
      have hw := wrap_u64_id x (by have hx := hz'.out bb; rw [Hx.out] at hx; exact hx)
      have b2 := and_zero_u64
      by_cases hy : x < q
      · go_wp2
        go_ret
        refine ⟨bb + 1, by simp, rfl, by omega, fun j hj => ?_, fun j hj hj' => Hhi.out j (by omega) hj'⟩
        have := asc_le hA'.out (show j ≤ bb by omega) (by omega)
        rw [Hx.out] at this
        omega
      · go_wp2
        go_ret
        refine ⟨bb, rfl, rfl, by omega, Hlo.out, fun j hj hj' => ?_⟩
        have := asc_le hA'.out hj hj'
        rw [Hx.out] at this
        omega

end Go.Proofs.Qxb6625633a
