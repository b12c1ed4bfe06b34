import Derived.Test.Qxb6625814aM2
namespace Go.Proofs.Qxb6625814a
open Go.RowKit
set_option linter.unusedVariables false

/-- How many backslashes stand in a row right before p, from a on. -/
def run (l : List UInt8) (a : Nat) : Nat → Nat
  | 0 => 0
  | p + 1 => if a ≤ p ∧ l[p]? = some 92 then run l a p + 1 else 0

theorem run_start (l : List UInt8) (a : Nat) : run l a a = 0 := by
  cases a with
  | zero => rfl
  | succ a => simp only [run]; rw [if_neg (fun h => absurd h.1 (by omega))]
theorem run_le (l : List UInt8) (a : Nat) : ∀ p, run l a p ≤ p := by
  intro p
  induction p with
  | zero => exact Nat.le_refl _
  | succ p ih => unfold run; split <;> omega

/-- The search's answer x, seen from p. -/
def QSee (q : UInt8) (l : List UInt8) (a : Nat) (x : Int) (p : Nat) : Prop :=
  if q ≠ 96 ∧ run l a p % 2 = 1 then x = endV (p + 1) (qE q (l.drop (p + 1))) else x = endV p (qE q (l.drop p))

theorem endV_add2 {k : Nat} {o : Option Nat} : endV (k + 2) o = endV k (o.map (· + 2)) := by
  cases o with
  | none => rfl
  | some e => simp only [endV, Option.map]; omega

theorem qE_nil (q : UInt8) : qE q [] = none := rfl
theorem qE_esc {q c : UInt8} {t : List UInt8} (hc : c = 92) (hq : q ≠ 96) : qE q (c :: t) = (qE q t.tail).map (· + 2) := by
  subst hc
  cases t with
  | nil => simp [qE, hq]
  | cons d t => simp [qE, hq]
theorem qE_hit {q c : UInt8} {t : List UInt8} (h : ¬ (c = 92 ∧ q ≠ 96)) (hc : c = q) : qE q (c :: t) = some 0 := by
  cases t with
  | nil => unfold qE; rw [if_neg h, if_pos hc]
  | cons d t => unfold qE; rw [if_neg h, if_pos hc]
theorem qE_go {q c : UInt8} {t : List UInt8} (h : ¬ (c = 92 ∧ q ≠ 96)) (hc : c ≠ q) : qE q (c :: t) = (qE q t).map (· + 1) := by
  cases t with
  | nil => unfold qE; rw [if_neg h, if_neg hc]; rfl
  | cons d t => rw [qE, if_neg h, if_neg hc]

theorem at_q {line : ByteArray} {k : Nat} (h : k < line.size) : line.data.toList[k]? = some line[k] := by
  have h2 : k < line.data.toList.length := h
  rw [List.getElem?_eq_getElem h2]; rfl

/-- The byte is not an open quote: on to the next. -/
theorem qsee_next {q : UInt8} {line : ByteArray} {a p : Nat} {x : Int} (ha : a ≤ p) (hp : p < line.size) (h : QSee q line.data.toList a x p)
    (hn : line[p] ≠ q ∨ (q ≠ 96 ∧ run line.data.toList a p % 2 = 1)) (hq92 : q ≠ 92) : QSee q line.data.toList a x (p + 1) := by
  unfold QSee at h ⊢
  have hr : run line.data.toList a (p + 1) = if line[p] = 92 then run line.data.toList a p + 1 else 0 := by
    simp only [run, at_q hp, Option.some.injEq, ha, true_and]
  by_cases hodd : q ≠ 96 ∧ run line.data.toList a p % 2 = 1
  · rw [if_pos hodd] at h
    rw [if_neg (fun e => by have h2 := e.2; rw [hr] at h2; split at h2 <;> omega)]
    exact h
  · rw [if_neg hodd, drop_at hp] at h
    have hne : line[p] ≠ q := hn.resolve_right hodd
    by_cases h92 : line[p] = 92
    · by_cases h96 : q = 96
      · rw [if_neg (fun e => e.1 h96)]
        rw [qE_go (fun e => e.2 h96) hne] at h
        rw [endV_succ]; exact h
      · have he : run line.data.toList a p % 2 = 0 := by
          have : ¬ run line.data.toList a p % 2 = 1 := fun e => hodd ⟨h96, e⟩
          omega
        rw [if_pos ⟨h96, by rw [hr, if_pos h92]; omega⟩]
        rw [qE_esc h92 h96] at h
        rw [List.tail_drop] at h
        rw [show p + 1 + 1 = p + 2 by rfl, endV_add2]; exact h
    · rw [if_neg (fun e => by have h2 := e.2; rw [hr, if_neg h92] at h2; omega)]
      rw [qE_go (fun e => h92 e.1) hne] at h
      rw [endV_succ]; exact h

theorem qsee_hit {q : UInt8} {line : ByteArray} {a p : Nat} {x : Int} (hp : p < line.size) (h : QSee q line.data.toList a x p)
    (hc : line[p] = q) (hn : ¬ (q ≠ 96 ∧ run line.data.toList a p % 2 = 1)) (hq92 : q ≠ 92) : x = (p : Int) := by
  unfold QSee at h
  rw [if_neg hn, drop_at hp, qE_hit (fun e => hq92 (hc.symm.trans e.1)) hc] at h
  rw [h]; simp [endV]

theorem qsee_end {q : UInt8} {line : ByteArray} {a p : Nat} {x : Int} (hp : ¬ p < line.size) (h : QSee q line.data.toList a x p) : x = -1 := by
  unfold QSee at h
  rw [drop_end hp, drop_end (show ¬ p + 1 < line.size by omega)] at h
  split at h <;> exact h

def QRel (w : World) (q : UInt8) (line : ByteArray) (a : Nat) (x : Int) (i : Value) (wr : World) : Prop := w = wr ∧ ∃ k : Nat, a ≤ k ∧ k ≤ 2097152 ∧ i = .int .i64 k ∧ Hid (QSee q line.data.toList a x k)
/-- The inner loop: c backslashes counted, j the next byte to look at. -/
def RRel (w : World) (line : ByteArray) (a p : Nat) (kv jv : Value) (wr : World) : Prop :=
  w = wr ∧ ∃ (m c : Nat) (j : Int), m + c = p ∧ a ≤ m ∧ kv = .int .i64 c ∧ jv = .int .i64 j ∧ j = (m : Int) - 1 ∧ Hid (run line.data.toList a p = c + run line.data.toList a m)


set_option maxRecDepth 100000 in
set_option maxHeartbeats 2000000 in
theorem quote14 (line : ByteArray) (a : Nat) (q : UInt8) (w : World) (hs : line.size ≤ 2097152) (ha : a ≤ 2097152) (hq92 : q ≠ 92) :
    Calls Try.prog 14 #[.string line, .int .i64 a, .int .u8 (q.toNat : Int)] w (RetV w (.int .i64 (endV a (qE q (line.data.toList.drop a))))) := by
  obtain ⟨x, hx⟩ : ∃ x, x = endV a (qE q (line.data.toList.drop a)) := ⟨_, rfl⟩
  rw [← hx]
  have HX : Hid (QSee q line.data.toList a x a) := by
    show QSee q line.data.toList a x a
    unfold QSee
    rw [if_neg (fun e => by have := e.2; rw [run_start] at this; omega)]
    exact hx
  clear hx
  go_enter Try.func14, Try.ntmps14
  go_wp2_with fail
  go_loopw [7, 8, 9] (fun i _ _ wr => QRel w q line a x i wr) (fun i _ _ _ => line.size - (intOf i).toNat)
  case atStart => exact ⟨rfl, a, Nat.le_refl _, ha, rfl, HX⟩
  case round =>
    clear HX
    obtain ⟨rfl, k, hak, hk, rfl, HX⟩ := hrel
    by_cases hlt : k < line.size
    · by_cases hc : line[k] = q
      · have tc : ((line[k].toNat : Int) != (q.toNat : Int)) = false := n_no hc
        by_cases h96 : q = 96
        · have t96 : ((q.toNat : Int) == 96) = true := b_yes h96
          have e : x = (k : Int) := qsee_hit hlt HX.out hc (fun h => h.1 h96) hq92
          subst e
          clear hc h96 HX hq92
          go_wp2
          go_ret
          exact ⟨rfl, rfl⟩
        · have t96 : ((q.toNat : Int) == 96) = false := b_no h96
          have HC : Hid (line[k] = q) := hc
          have H96 : Hid (q ≠ 96) := h96
          have HR : RRel w line a k (.int .i64 0) (.int .i64 ((k : Int) - 1)) w := ⟨rfl, k, 0, _, by omega, hak, rfl, rfl, rfl, (Nat.zero_add _).symm⟩
          clear hc h96
          go_wp2_with fail
          go_loopw [8, 9] (fun kv jv wr => RRel w line a k kv jv wr) (fun _ jv _ => (intOf jv + 1).toNat)
          case atStart => exact HR
          case round =>
            clear HR
            obtain ⟨rfl, m, c, j, hmc, ham, rfl, rfl, hj, HC2⟩ := hrel
            by_cases hm : a < m
            · obtain ⟨m, rfl⟩ : ∃ m', m = m' + 1 := ⟨m - 1, by omega⟩
              obtain rfl : j = (m : Int) := by omega
              clear hj
              have hms : m < line.size := by omega
              by_cases h92 : line[m] = 92
              · have t92 : ((line[m].toNat : Int) == 92) = true := b_yes h92
                have HC3 : Hid (run line.data.toList a k = (c + 1 : Nat) + run line.data.toList a m) := by
                  show _ = _
                  rw [HC2.out, run, if_pos ⟨by omega, by rw [at_q hms, h92]⟩]; omega
                clear h92 HC2
                go_wp2
                go_roundw
                case rel => exact ⟨rfl, m, c + 1, _, by omega, by omega, by go_num, rfl, by omega, HC3⟩
                case measure => simp [intOf]
              · have t92 : ((line[m].toNat : Int) == 92) = false := b_no h92
                have HC3 : Hid (run line.data.toList a k = c) := by
                  show _ = _
                  rw [HC2.out, run, if_neg (fun e => h92 (by have := e.2; rw [at_q hms] at this; simpa using this))]; omega
                clear h92 HC2
                by_cases h2 : c % 2 = 0
                · have t2 : ((c : Int) % 2 == 0) = true := beq_iff_eq.2 (by omega)
                  have e : x = (k : Int) := qsee_hit hlt HX.out HC.out (fun h => by have h3 := h.2; rw [HC3.out] at h3; omega) hq92
                  subst e
                  clear h2 HC3 HX hq92
                  go_wp2
                  go_ret
                  exact ⟨rfl, rfl⟩
                · have t2 : ((c : Int) % 2 == 0) = false := beq_eq_false_iff_ne.2 (by omega)
                  have HX' : Hid (QSee q line.data.toList a x (k + 1)) := qsee_next hak hlt HX.out (.inr ⟨H96.out, by rw [HC3.out]; omega⟩) hq92
                  clear h2 HC3 HX hq92
                  go_wp2
                  exact ⟨⟨rfl, k + 1, by omega, by omega, by go_num, HX'⟩, by simp [intOf]; omega⟩
            · obtain rfl : m = a := by omega
              have HC3 : Hid (run line.data.toList m k = c) := by
                show _ = _
                rw [HC2.out, run_start]; rfl
              clear HC2
              have hjm : decide ((m : Int) ≤ j) = false := decide_eq_false (by omega)
              clear hj
              by_cases h2 : c % 2 = 0
              · have t2 : ((c : Int) % 2 == 0) = true := beq_iff_eq.2 (by omega)
                have e : x = (k : Int) := qsee_hit hlt HX.out HC.out (fun h => by have h3 := h.2; rw [HC3.out] at h3; omega) hq92
                subst e
                clear h2 HC3 HX hq92
                go_wp2
                go_ret
                exact ⟨rfl, rfl⟩
              · have t2 : ((c : Int) % 2 == 0) = false := beq_eq_false_iff_ne.2 (by omega)
                have HX' : Hid (QSee q line.data.toList m x (k + 1)) := qsee_next hak hlt HX.out (.inr ⟨H96.out, by rw [HC3.out]; omega⟩) hq92
                clear h2 HC3 HX hq92
                go_wp2
                exact ⟨⟨rfl, k + 1, by omega, by omega, by go_num, HX'⟩, by simp [intOf]; omega⟩
      · have tc : ((line[k].toNat : Int) != (q.toNat : Int)) = true := n_yes hc
        have HX' : Hid (QSee q line.data.toList a x (k + 1)) := qsee_next hak hlt HX.out (.inl hc) hq92
        clear hc HX hq92
        go_wp2
        go_roundw
        case rel => exact ⟨rfl, k + 1, by omega, by omega, by go_num, HX'⟩
        case measure => simp [intOf]; omega
    · have e : x = -1 := qsee_end hlt HX.out
      subst e
      clear HX
      go_wp2
      go_ret
      exact ⟨rfl, rfl⟩

end Go.Proofs.Qxb6625814a
