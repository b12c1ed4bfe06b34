import Derived.Test.Qxb6625633aV6
namespace Go.Proofs.Qxb6625633a
open Go.RowKit
set_option linter.unusedVariables false

/-- A column that lies in F: nil where all are 0. -/
def Col (F : Nat → Prop) (w : World) (v : Value) (ts : List Int) : Prop :=
  (v = .slice none 0 0 ∧ az ts = true) ∨ (az ts = false ∧ ∃ b o c, v = .slice (some ⟨b, o, none⟩) ts.length c ∧ F b ∧ RdU w (some ⟨b, o, none⟩) ts)

theorem Col.keep {F : Nat → Prop} {w w' : World} {v : Value} {ts : List Int} (h : Col F w v ts) (hk : Keep F w w') : Col F w' v ts := by
  rcases h with h | ⟨h1, b, o, c, h2, h3, h4⟩
  · exact .inl h
  · refine .inr ⟨h1, b, o, c, h2, h3, h4.keepF (fun b' o' e => ?_) hk⟩
    cases e
    exact h3

theorem same_any (F G : Nat → Prop) (tv v : Value) (ts : List Int) (w : World) (hT : Tags G w tv ts) (hC : Col F w v ts) (l : ts.length ≤ 1048576) :
    Calls Try.prog 13 #[tv, v] w (RetD w (.bool true)) := by
  rcases hT with ⟨rfl, hz⟩ | ⟨hz, g, cap, rfl, hown, _⟩
  · rcases hC with ⟨rfl, _⟩ | ⟨hz', _⟩
    · exact same13_nil w
    · rw [hz] at hz'; cases hz'
  · rcases hC with ⟨_, hz'⟩ | ⟨_, b, o, c, rfl, _, hrd⟩
    · rw [hz] at hz'; cases hz'
    · exact same13 _ _ _ _ ts w (row_rd hown) hrd l

theorem asc_inj {zs : List Int} (h : Asc zs) {i j : Nat} (hi : i < zs.length) (hj : j < zs.length) (he : zs.getD i 0 = zs.getD j 0) : i = j := by
  rcases Nat.lt_trichotomy i j with h' | h' | h'
  · have := asc_lt h (j - i - 1) i (by omega)
    rw [show i + (j - i - 1) + 1 = j by omega] at this
    omega
  · exact h'
  · have := asc_lt h (i - j - 1) j (by omega)
    rw [show j + (i - j - 1) + 1 = i by omega] at this
    omega

/-- A call of setTag on a member, on a number that is none. -/
def RetYes (F : Nat → Prop) (w : World) (sb nb : Nat) (ka : Option Addr) (zs ts' : List Int) (old : Int) (e : Ending) (w' : World) : Prop :=
  ∃ tv', e = .returned (.tuple #[.int .u64 old, .bool true]) ∧ SetOk F w' sb nb ka zs ts' tv' ∧ Keep F w w'
def RetNo (F : Nat → Prop) (w : World) (sb nb : Nat) (ka : Option Addr) (zs ts : List Int) (e : Ending) (w' : World) : Prop :=
  ∃ tv', e = .returned (.tuple #[.int .u64 0, .bool false]) ∧ SetOk F w' sb nb ka zs ts tv' ∧ Keep F w w'

theorem zset_yes (F : Nat → Prop) (sb nb : Nat) (ka : Option Addr) (zs ts : List Int) (tv : Value) (q t old : Int) (i : Nat) (w : World) (h : SetOk F w sb nb ka zs ts tv) (hA : Asc zs) (l : zs.length ≤ 1048576)
    (hz : ∀ i, 0 ≤ zs.getD i 0 ∧ zs.getD i 0 ≤ 18446744073709551615) (hi : i < zs.length) (hq : zs.getD i 0 = q) (ho : ts.getD i 0 = old) :
    Calls Try.prog 11 #[.pointer (some ⟨sb, 0, none⟩), .int .u64 q, .int .u64 t] w (RetYes F w sb nb ka zs (ts.set i t) old) := by
  refine (zset11 F sb nb ka zs ts tv q t w h hA l hz (by omega)).mono ?_
  rintro e w' (⟨j, tv', h1, h2, rfl, h3, h4⟩ | ⟨tv', h1, rfl, h3, h4⟩)
  · obtain rfl : i = j := asc_inj hA hi h1 (hq.trans h2.symm)
    exact ⟨tv', by rw [ho], h3, h4⟩
  · exact absurd hq (h1 i hi)

theorem zset_no (F : Nat → Prop) (sb nb : Nat) (ka : Option Addr) (zs ts : List Int) (tv : Value) (q t : Int) (w : World) (h : SetOk F w sb nb ka zs ts tv) (hA : Asc zs) (l : zs.length ≤ 1048576)
    (hz : ∀ i, 0 ≤ zs.getD i 0 ∧ zs.getD i 0 ≤ 18446744073709551615) (hn : 0 < zs.length) (hq : ∀ j, j < zs.length → zs.getD j 0 ≠ q) :
    Calls Try.prog 11 #[.pointer (some ⟨sb, 0, none⟩), .int .u64 q, .int .u64 t] w (RetNo F w sb nb ka zs ts) := by
  refine (zset11 F sb nb ka zs ts tv q t w h hA l hz hn).mono ?_
  rintro e w' (⟨j, tv', h1, h2, rfl, h3, h4⟩ | ⟨tv', h1, rfl, h3, h4⟩)
  · exact absurd h2 (hq j h1)
  · exact ⟨tv', rfl, h3, h4⟩

theorem RdU.keepB {w w' : World} {B : Nat} {a : Option Addr} {zs : List Int} (h : RdU w a zs) (hb : Below B w w') (hB : w.heap.size ≤ B) : RdU w' a zs := fun i hi => by
  obtain ⟨b, o, e1, hc⟩ := h i hi
  have := World.block_lt_of_cell? w _ hc
  exact ⟨b, o, e1, (hb.cell (p := ⟨b, o + i, none⟩) (Nat.lt_of_lt_of_le this hB)).trans hc⟩

theorem own_keepB {w w' : World} {B lo g n cap : Nat} {xs : List Value} (h : w.ownsRow lo 23 1 (.slice (some ⟨g, 0, none⟩) n cap) n xs) (hb : Below B w w') (hB : w.heap.size ≤ B) : w'.ownsRow 0 23 1 (.slice (some ⟨g, 0, none⟩) n cap) n xs := by
  refine ⟨h.1, ?_⟩
  rcases h.2 with hn | ⟨g', cap', cur, e1, hg, hh, rest⟩
  · exact .inl hn
  · exact .inr ⟨g', cap', cur, e1, Nat.zero_le _, by rw [hb.block g' (by have := lt_of_block hh; omega)]; exact hh, rest⟩

/-- The blocks that a call of setTag leaves alone. -/
def Fz (N nb : Nat) (tv : Value) (k : Nat) : Prop := k < N ∧ k ≠ nb ∧ tv.ownBlock ≠ some k

theorem mkSet {W : World} {sb nb K : Nat} {zs ts : List Int} {tv : Value} (hR : RootIs W sb (some ⟨nb, 0, none⟩)) (hN : NodeIs W nb (some ⟨K, 0, none⟩) zs.length tv)
    (hT : (tv = .slice none 0 0 ∧ az ts = true) ∨ (az ts = false ∧ ∃ g cap, tv = .slice (some ⟨g, 0, none⟩) ts.length cap ∧ W.ownsRow 0 23 1 (.slice (some ⟨g, 0, none⟩) ts.length cap) ts.length (ts.map (Value.int .u64)) ∧ g < nb ∧ g ≠ K))
    (hlen : ts.length = zs.length) (rd : RdU W (some ⟨K, 0, none⟩) zs) (hK : K < nb) (hnb : nb < sb) (hsb : sb < W.heap.size) : SetOk (Fz W.heap.size nb tv) W sb nb (some ⟨K, 0, none⟩) zs ts tv := by
  have hown : ∀ k, nb ≤ k ∨ k = K → tv.ownBlock ≠ some k := by
    intro k hk
    rcases hT with ⟨rfl, _⟩ | ⟨_, g, cap, rfl, _, hg, hg'⟩
    · simp [Value.ownBlock]
    · simp only [Value.ownBlock, ne_eq, Option.some.injEq]
      omega
  refine ⟨fun k hk => hk.1, fun h => h.2.1 rfl, ⟨hsb, by omega, hown sb (.inl (by omega))⟩, hR, hN, ?_, hlen, fun b o e => ?_, rd⟩
  · rcases hT with h | ⟨h1, g, cap, h2, h3, h4, h5⟩
    · exact .inl h
    · refine .inr ⟨h1, g, cap, h2, h3, fun hf => hf.2.2 ?_⟩
      rw [h2]; rfl
  · cases e
    exact ⟨by omega, by omega, hown K (.inr rfl)⟩

theorem mkCol {W : World} {nb b cap : Nat} {tv : Value} {ts : List Int} (h : W.ownsRow 0 23 1 (.slice (some ⟨b, 0, none⟩) ts.length cap) ts.length (ts.map (Value.int .u64))) (hz : az ts = false) (hb : b ≠ nb) (ht : tv.ownBlock ≠ some b) :
    Col (Fz W.heap.size nb tv) W (.slice (some ⟨b, 0, none⟩) ts.length cap) ts :=
  .inr ⟨hz, b, 0, cap, rfl, ⟨(h.lt b rfl).2, hb, ht⟩, row_rd h⟩

theorem root_keepB {w w' : World} {B sb : Nat} {r : Option Addr} (h : RootIs w sb r) (hb : Below B w w') (hB : w.heap.size ≤ B) : RootIs w' sb r := by
  obtain ⟨x1, x2, x3, x4, hr⟩ := h
  exact ⟨x1, x2, x3, x4, (hb.block sb (Nat.lt_of_lt_of_le (lt_of_block hr) hB)).trans hr⟩
theorem node_keepB {w w' : World} {B nb n : Nat} {ka : Option Addr} {tv : Value} (h : NodeIs w nb ka n tv) (hb : Below B w w') (hB : w.heap.size ≤ B) : NodeIs w' nb ka n tv := by
  unfold NodeIs at h ⊢
  exact (hb.block nb (Nat.lt_of_lt_of_le (lt_of_block h) hB)).trans h

theorem own_zero {w : World} {lo g n cap : Nat} {xs : List Value} (h : w.ownsRow lo 23 1 (.slice (some ⟨g, 0, none⟩) n cap) n xs) : w.ownsRow 0 23 1 (.slice (some ⟨g, 0, none⟩) n cap) n xs :=
  own_keepB h (Below.refl _ _) (Nat.le_refl _)

theorem set_back {ts : List Int} {i : Nat} {t old : Int} (h : i < ts.length) (ho : ts.getD i 0 = old) : (ts.set i t).set i old = ts := by
  rw [List.set_set, ← ho, set_same h]

end Go.Proofs.Qxb6625633a
