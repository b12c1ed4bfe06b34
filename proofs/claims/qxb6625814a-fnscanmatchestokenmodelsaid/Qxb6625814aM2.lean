import Derived.Test.Qxb6625814aM1
namespace Go.Proofs.Qxb6625814a
open Go.RowKit
set_option linter.unusedVariables false

def endV (a : Nat) (o : Option Nat) : Int := match o with | none => -1 | some e => ((a + e : Nat) : Int)

theorem endV_succ {k : Nat} {o : Option Nat} : endV (k + 1) o = endV k (o.map (· + 1)) := by
  cases o with
  | none => rfl
  | some e => simp only [endV, Option.map]; omega

theorem bE_at {line : ByteArray} {k : Nat} (h : k < line.size) : bE (line.data.toList.drop k) = if line[k] = 42 ∧ (line.data.toList.drop (k + 1)).head? = some 47 then some 0 else (bE (line.data.toList.drop (k + 1))).map (· + 1) := by
  rw [drop_at h]; rfl
theorem head_at {line : ByteArray} {k : Nat} (h : k < line.size) : (line.data.toList.drop k).head? = some line[k] := by rw [drop_at h]; rfl

def EndRel (w : World) (f : List UInt8 → Option Nat) (line : ByteArray) (x : Int) (i : Value) (wr : World) : Prop := w = wr ∧ ∃ k : Nat, k ≤ 2097152 ∧ i = .int .i64 k ∧ Hid (x = endV k (f (line.data.toList.drop k)))

set_option maxHeartbeats 1000000 in
theorem block13 (line : ByteArray) (a : Nat) (w : World) (hs : line.size ≤ 2097152) (ha : a ≤ 2097152) :
    Calls Try.prog 13 #[.string line, .int .i64 a] w (RetV w (.int .i64 (endV a (bE (line.data.toList.drop a))))) := by
  obtain ⟨x, hx⟩ : ∃ x, x = endV a (bE (line.data.toList.drop a)) := ⟨_, rfl⟩
  rw [← hx]
  have HX : Hid (x = endV a (bE (line.data.toList.drop a))) := hx
  clear hx
  go_enter Try.func13, Try.ntmps13
  go_wp2_with fail
  go_loopw [5] (fun i wr => EndRel w bE line x i wr) (fun i _ => line.size - (intOf i).toNat)
  case atStart => exact ⟨rfl, a, ha, rfl, HX⟩
  case round =>
    clear HX
    obtain ⟨rfl, k, hk, rfl, HX⟩ := hrel
    by_cases hlt : k + 1 < line.size
    · have hlt0 : k < line.size := by omega
      by_cases h42 : line[k] = 42
      · have t42 : ((line[k].toNat : Int) == 42) = true := b_yes h42
        by_cases h47 : line[k + 1] = 47
        · have t47 : ((line[k + 1].toNat : Int) == 47) = true := b_yes h47
          have e : x = (k : Int) := by rw [HX.out, bE_at hlt0, if_pos ⟨h42, by rw [head_at hlt, h47]⟩]; simp [endV]
          subst e
          clear h42 h47 HX
          go_wp2
          go_ret
          exact ⟨rfl, rfl⟩
        · have t47 : ((line[k + 1].toNat : Int) == 47) = false := b_no h47
          have HX' : x = endV (k + 1) (bE (line.data.toList.drop (k + 1))) := by
            rw [HX.out, bE_at hlt0, if_neg (fun h => h47 (by have h2 := h.2; rw [head_at hlt] at h2; simpa using h2)), endV_succ]
          clear h42 h47 HX
          replace HX' : Hid _ := HX'
          go_wp2
          go_roundw
          case rel => exact ⟨rfl, k + 1, by omega, by go_num, HX'⟩
          case measure => simp [intOf]; omega
      · have t42 : ((line[k].toNat : Int) == 42) = false := b_no h42
        have HX' : x = endV (k + 1) (bE (line.data.toList.drop (k + 1))) := by
          rw [HX.out, bE_at hlt0, if_neg (fun h => h42 h.1), endV_succ]
        clear h42 HX
        replace HX' : Hid _ := HX'
        go_wp2
        go_roundw
        case rel => exact ⟨rfl, k + 1, by omega, by go_num, HX'⟩
        case measure => simp [intOf]; omega
    · have e : x = -1 := by
        rw [HX.out]
        by_cases h0 : k < line.size
        · rw [bE_at h0, drop_end hlt]; simp [bE, endV]
        · rw [drop_end h0]; rfl
      subst e
      clear HX
      go_wp2
      go_ret
      exact ⟨rfl, rfl⟩

theorem dash15 (line : ByteArray) (k : Nat) (w : World) (hs : line.size ≤ 2097152) (hk : k < line.size) :
    Calls Try.prog 15 #[.string line, .int .i64 k] w (RetV w (.bool (decide (line[k] = 45) && dashC (line.data.toList.drop (k + 1))))) := by
  by_cases h45 : line[k] = 45
  · have t45 : ((line[k].toNat : Int) != 45) = false := n_no h45
    rw [decide_eq_true h45, Bool.true_and]
    clear h45
    by_cases h1 : k + 1 < line.size
    · by_cases d45 : line[k + 1] = 45
      · have u45 : ((line[k + 1].toNat : Int) != 45) = false := n_no d45
        by_cases h2 : k + 2 < line.size
        · have e : dashC (line.data.toList.drop (k + 1)) = decide (line[k + 2] ≤ 32) := by rw [drop_at h1, drop_at h2]; simp [dashC, d45]
          rw [e]
          clear e d45
          have f : ((k : Int) + 2 == (line.size : Int)) = false := beq_eq_false_iff_ne.2 (by omega)
          by_cases h32 : line[k + 2] ≤ 32
          · have v32 : (line[k + 2].toNat : Int) ≤ 32 := by have := UInt8.le_iff_toNat_le.1 h32; simp at this; omega
            rw [decide_eq_true h32]
            clear h32
            go_enter Try.func15, Try.ntmps15
            go_wp2
            go_ret
            exact ⟨rfl, rfl⟩
          · have v32 : decide ((line[k + 2].toNat : Int) ≤ 32) = false := by
              refine decide_eq_false ?_
              intro h; apply h32; rw [UInt8.le_iff_toNat_le]; simp; omega
            rw [decide_eq_false h32]
            clear h32
            go_enter Try.func15, Try.ntmps15
            go_wp2
            go_ret
            exact ⟨rfl, rfl⟩
        · have e : dashC (line.data.toList.drop (k + 1)) = true := by rw [drop_at h1, drop_end h2]; simp [dashC, d45]
          rw [e]
          clear e d45
          have f : ((k : Int) + 2 == (line.size : Int)) = true := beq_iff_eq.2 (by omega)
          go_enter Try.func15, Try.ntmps15
          go_wp2
          go_ret
          exact ⟨rfl, rfl⟩
      · have u45 : ((line[k + 1].toNat : Int) != 45) = true := n_yes d45
        have e : dashC (line.data.toList.drop (k + 1)) = false := by rw [drop_at h1]; simp [dashC, d45]
        rw [e]
        clear e d45
        go_enter Try.func15, Try.ntmps15
        go_wp2
        go_ret
        exact ⟨rfl, rfl⟩
    · have e : dashC (line.data.toList.drop (k + 1)) = false := by rw [drop_end h1]; rfl
      rw [e]
      clear e
      go_enter Try.func15, Try.ntmps15
      go_wp2
      go_ret
      exact ⟨rfl, rfl⟩
  · have t45 : ((line[k].toNat : Int) != 45) = true := n_yes h45
    rw [decide_eq_false h45, Bool.false_and]
    clear h45
    go_enter Try.func15, Try.ntmps15
    go_wp2
    go_ret
    exact ⟨rfl, rfl⟩

end Go.Proofs.Qxb6625814a
