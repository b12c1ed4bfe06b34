import Derived.Test.Qxb6625814aM4
namespace Go.Proofs.Qxb6625814a
open Go.RowKit
set_option linter.unusedVariables false

theorem block13n {line : ByteArray} {a : Nat} {i : Int} (w : World) (hi : i = (a : Int)) (hs : line.size ≤ 2097152) (ha : a ≤ 2097152) (h : bE (line.data.toList.drop a) = none) :
    Calls Try.prog 13 #[.string line, .int .i64 i] w (RetV w (.int .i64 (-1))) := by
  subst hi
  have := block13 line a w hs ha
  rw [h] at this
  exact this
theorem block13s {line : ByteArray} {a e E : Nat} {i : Int} (w : World) (hi : i = (a : Int)) (hs : line.size ≤ 2097152) (ha : a ≤ 2097152) (h : bE (line.data.toList.drop a) = some e) (hE : E = a + e) :
    Calls Try.prog 13 #[.string line, .int .i64 i] w (RetV w (.int .i64 (E : Int))) := by
  subst hi hE
  have := block13 line a w hs ha
  rw [h] at this
  exact this
theorem quote14n {line : ByteArray} {a : Nat} {q : UInt8} {i : Int} (w : World) (hi : i = (a : Int)) (hs : line.size ≤ 2097152) (ha : a ≤ 2097152) (hq : q ≠ 92) (h : qE q (line.data.toList.drop a) = none) :
    Calls Try.prog 14 #[.string line, .int .i64 i, .int .u8 (q.toNat : Int)] w (RetV w (.int .i64 (-1))) := by
  subst hi
  have := quote14 line a q w hs ha hq
  rw [h] at this
  exact this
theorem quote14s {line : ByteArray} {a e E : Nat} {q : UInt8} {i : Int} (w : World) (hi : i = (a : Int)) (hs : line.size ≤ 2097152) (ha : a ≤ 2097152) (hq : q ≠ 92) (h : qE q (line.data.toList.drop a) = some e) (hE : E = a + e) :
    Calls Try.prog 14 #[.string line, .int .i64 i, .int .u8 (q.toNat : Int)] w (RetV w (.int .i64 (E : Int))) := by
  subst hi hE
  have := quote14 line a q w hs ha hq
  rw [h] at this
  exact this

/-- line[i:j] as a list. -/
theorem ext_list (line : ByteArray) (i j : Nat) : (line.extract i j).data.toList = (line.data.toList.drop i).take (j - i) := Lib.extract_data line i j
theorem drop_full (line : ByteArray) : line.data.toList.drop line.size = [] := drop_end (by omega)
theorem ext_end (line : ByteArray) (i : Nat) : (line.extract i line.size).data.toList = line.data.toList.drop i := by
  rw [ext_list]
  exact List.take_of_length_le (by have : line.data.toList.length = line.size := rfl; rw [List.length_drop]; omega)
theorem len_list (line : ByteArray) : line.data.toList.length = line.size := rfl

section
variable {n : Int} {q : UInt8} {op : Int} {bs : List UInt8} {sn : Int} {out : List (Int × List UInt8)} {line : ByteArray} {fin : Sc} {k : Nat}

theorem L_block0n (hG : Goes n ⟨1, q, op, bs, sn, out⟩ line.data.toList fin) (h : bE (line.data.toList.drop 0) = none) :
    Goes n ⟨1, q, op, bs ++ line.data.toList, sn, out⟩ (line.data.toList.drop line.size) fin := by
  have := goes_block n q op sn out fin _ _ hG
  rw [List.drop_zero] at h
  rw [h] at this
  rw [drop_full]; exact this
theorem L_block0s {e : Nat} (hG : Goes n ⟨1, q, op, bs, sn, out⟩ line.data.toList fin) (h : bE (line.data.toList.drop 0) = some e) :
    e + 2 ≤ line.size ∧ Goes n ⟨0, q, op, bs ++ (line.extract 0 (e + 2)).data.toList, sn, out⟩ (line.data.toList.drop (e + 2)) fin := by
  have := goes_block n q op sn out fin _ _ hG
  rw [List.drop_zero] at h
  rw [h] at this
  refine ⟨bE_le _ _ h, ?_⟩
  rw [ext_list]; simpa using this
theorem L_quote0n (hq : q ≠ 92) (hG : Goes n ⟨2, q, op, bs, sn, out⟩ line.data.toList fin) (h : qE q (line.data.toList.drop 0) = none) :
    Goes n ⟨2, q, op, bs ++ line.data.toList, sn, out⟩ (line.data.toList.drop line.size) fin := by
  have := goes_quote n q op sn out fin hq _ _ _ (Nat.le_refl _) hG
  rw [List.drop_zero] at h
  rw [h] at this
  rw [drop_full]; exact this
theorem L_quote0s {e : Nat} (hq : q ≠ 92) (hG : Goes n ⟨2, q, op, bs, sn, out⟩ line.data.toList fin) (h : qE q (line.data.toList.drop 0) = some e) :
    e + 1 ≤ line.size ∧ Goes n ⟨0, q, op, bs ++ (line.extract 0 (e + 1)).data.toList, sn, out⟩ (line.data.toList.drop (e + 1)) fin := by
  have := goes_quote n q op sn out fin hq _ _ _ (Nat.le_refl _) hG
  rw [List.drop_zero] at h
  rw [h] at this
  refine ⟨this.1, ?_⟩
  rw [ext_list]; simpa using this.2

theorem goes_at {s s' : Sc} {t : List UInt8} (hk : k < line.size) (hG : Goes n s (line.data.toList.drop k) fin) (e : stepS n s line[k] (line.data.toList.drop (k + 1)) = (s', t)) : Goes n s' t fin := by
  rw [drop_at hk] at hG
  have := goes_step hG
  rw [e] at this
  exact this

theorem L_K (hk : k < line.size) (hG : Goes n ⟨0, q, op, bs, sn, out⟩ (line.data.toList.drop k) fin) (h : line[k] = 35 ∨ (line[k] = 45 ∧ dashC (line.data.toList.drop (k + 1)) = true)) :
    Goes n ⟨0, q, op, bs ++ (line.extract k line.size).data.toList, sn, out⟩ (line.data.toList.drop line.size) fin := by
  rw [drop_full, ext_end, drop_at hk]
  exact goes_at hk hG (st_K n q op bs sn out _ _ h)

/-- A block comment opens at k. -/
theorem L_S {bs' : List UInt8} {sn' : Int} (hk : k + 1 < line.size) (hG : Goes n ⟨0, q, op, bs, sn, out⟩ (line.data.toList.drop k) fin) (hc : line[k] = 47) (hd : line[k + 1] = 42)
    (hb : ((line.data.toList.drop (k + 2)).head? = some 33 ∧ sn = 0 ∧ bs' = [] ∧ sn' = n) ∨ (¬ ((line.data.toList.drop (k + 2)).head? = some 33 ∧ sn = 0) ∧ bs' = bs ∧ sn' = sn)) :
    Goes n ⟨1, q, n, bs' ++ [line[k]] ++ [line[k + 1]], sn', out⟩ (line.data.toList.drop (k + 2)) fin := by
  refine goes_at (k := k) (by omega) hG ?_
  rw [drop_at hk]
  by_cases h33 : (line.data.toList.drop (k + 2)).head? = some 33
  · rw [show k + 1 + 1 = k + 2 by rfl, st_S1 n q op bs sn out _ _ _ hc hd h33]
    rcases hb with ⟨_, h0, rfl, rfl⟩ | ⟨hn, rfl, rfl⟩
    · subst h0; simp [bb, bn]
    · have : ¬ sn' = 0 := fun e => hn ⟨h33, e⟩
      simp [bb, bn, this]
  · rw [show k + 1 + 1 = k + 2 by rfl, st_S3 n q op bs sn out _ _ _ hc hd h33]
    rcases hb with ⟨h, _⟩ | ⟨_, rfl, rfl⟩
    · exact absurd h h33
    · rfl
theorem L_Sn {bs' : List UInt8} {sn' : Int} (hk : k + 1 < line.size) (hG : Goes n ⟨0, q, op, bs, sn, out⟩ (line.data.toList.drop k) fin) (hc : line[k] = 47) (hd : line[k + 1] = 42)
    (hb : ((line.data.toList.drop (k + 2)).head? = some 33 ∧ sn = 0 ∧ bs' = [] ∧ sn' = n) ∨ (¬ ((line.data.toList.drop (k + 2)).head? = some 33 ∧ sn = 0) ∧ bs' = bs ∧ sn' = sn)) (h : bE (line.data.toList.drop (k + 2)) = none) :
    Goes n ⟨1, q, n, bs' ++ (line.extract k line.size).data.toList, sn', out⟩ (line.data.toList.drop line.size) fin := by
  have := goes_block n q n sn' out fin _ _ (L_S hk hG hc hd hb)
  rw [h] at this
  rw [drop_full, ext_end, drop_at (show k < line.size by omega), drop_at hk]
  simpa using this
theorem L_Ss {bs' : List UInt8} {sn' : Int} {e E : Nat} (hk : k + 1 < line.size) (hG : Goes n ⟨0, q, op, bs, sn, out⟩ (line.data.toList.drop k) fin) (hc : line[k] = 47) (hd : line[k + 1] = 42)
    (hb : ((line.data.toList.drop (k + 2)).head? = some 33 ∧ sn = 0 ∧ bs' = [] ∧ sn' = n) ∨ (¬ ((line.data.toList.drop (k + 2)).head? = some 33 ∧ sn = 0) ∧ bs' = bs ∧ sn' = sn)) (h : bE (line.data.toList.drop (k + 2)) = some e) (hE : E = k + 2 + e) :
    E + 2 ≤ line.size ∧ Goes n ⟨0, q, n, bs' ++ (line.extract k (E + 2)).data.toList, sn', out⟩ (line.data.toList.drop (E + 2)) fin := by
  have h2 := goes_block n q n sn' out fin _ _ (L_S hk hG hc hd hb)
  rw [h] at h2
  have h3 := bE_le _ _ h
  rw [List.length_drop, len_list] at h3
  refine ⟨by omega, ?_⟩
  rw [ext_list, drop_at (show k < line.size by omega), drop_at hk, show E + 2 - k = (e + 2) + 1 + 1 by omega, show E + 2 = k + 2 + (e + 2) by omega, ← List.drop_drop]
  simpa using h2

/-- Quoted text opens at k. -/
theorem L_Q (hk : k < line.size) (hG : Goes n ⟨0, q, op, bs, sn, out⟩ (line.data.toList.drop k) fin) (hc : isQ line[k] = true) :
    Goes n ⟨2, line[k], n, bb bs sn ++ [line[k]], bn n sn, out⟩ (line.data.toList.drop (k + 1)) fin :=
  goes_at hk hG (st_Dq n q op bs sn out _ _ (by simp only [isQ, Bool.or_eq_true, beq_iff_eq] at hc; rcases hc with (h | h) | h <;> simp [h]))
theorem isQ_ne {c : UInt8} (h : isQ c = true) : c ≠ 92 := by intro e; subst e; exact absurd h (by decide)
theorem L_Qn (hk : k < line.size) (hG : Goes n ⟨0, q, op, bs, sn, out⟩ (line.data.toList.drop k) fin) (hc : isQ line[k] = true) (h : qE line[k] (line.data.toList.drop (k + 1)) = none) :
    Goes n ⟨2, line[k], n, bb bs sn ++ (line.extract k line.size).data.toList, bn n sn, out⟩ (line.data.toList.drop line.size) fin := by
  have := goes_quote n line[k] n (bn n sn) out fin (isQ_ne hc) _ _ _ (Nat.le_refl _) (L_Q hk hG hc)
  rw [h] at this
  rw [drop_full, ext_end, drop_at hk]
  simpa using this
theorem L_Qs {e E : Nat} (hk : k < line.size) (hG : Goes n ⟨0, q, op, bs, sn, out⟩ (line.data.toList.drop k) fin) (hc : isQ line[k] = true) (h : qE line[k] (line.data.toList.drop (k + 1)) = some e) (hE : E = k + 1 + e) :
    E + 1 ≤ line.size ∧ Goes n ⟨0, line[k], n, bb bs sn ++ (line.extract k (E + 1)).data.toList, bn n sn, out⟩ (line.data.toList.drop (E + 1)) fin := by
  have h2 := goes_quote n line[k] n (bn n sn) out fin (isQ_ne hc) _ _ _ (Nat.le_refl _) (L_Q hk hG hc)
  rw [h] at h2
  have h3 := h2.1
  rw [List.length_drop, len_list] at h3
  refine ⟨by omega, ?_⟩
  rw [ext_list, drop_at hk, show E + 1 - k = (e + 1) + 1 by omega, show E + 1 = k + 1 + (e + 1) by omega, ← List.drop_drop]
  simpa using h2.2
end

theorem Buf.str_add {w w' : World} {B : Nat} {v v' : Value} {bs : List UInt8} {s : ByteArray} (h : w'.ownsRow B 5 1 v' (bs.length + s.size) (Lib.byteCells bs ++ Lib.strCells s)) : Buf w' B v' (bs ++ s.data.toList) := by
  have hb2 : (bs ++ s.data.toList).length = bs.length + s.size := by rw [List.length_append, Array.length_toList]; rfl
  have hb3 : Lib.byteCells (bs ++ s.data.toList) = Lib.byteCells bs ++ Lib.strCells s := by rw [Lib.byteCells_append]; rfl
  unfold Buf
  rw [hb2, hb3]; exact h
theorem Buf.byte_add {w' : World} {B : Nat} {v' : Value} {bs : List UInt8} {c : UInt8} (h : w'.ownsRow B 5 1 v' (bs.length + 1) (Lib.byteCells bs ++ [.int .u8 (c.toNat : Int)])) : Buf w' B v' (bs ++ [c]) := by
  have hb2 : (bs ++ [c]).length = bs.length + 1 := by simp
  have hb3 : Lib.byteCells (bs ++ [c]) = Lib.byteCells bs ++ [.int .u8 (c.toNat : Int)] := by simp [Lib.byteCells]
  unfold Buf
  rw [hb2, hb3]; exact h
theorem own_none_grown {w w' : World} {B t k m : Nat} {v : Value} {xs : List Value} (h : w.ownsRow B t k v m xs) (hg : w.grownBy w' none) : w'.ownsRow B t k v m xs := by
  refine ⟨h.1, ?_⟩
  rcases h.2 with hn' | ⟨g, cap, cur, e1, hgg, hh, rest⟩
  · exact .inl hn'
  · exact .inr ⟨g, cap, cur, e1, hgg, by rw [hg.block g (lt_of_block hh) (fun e => by cases e)]; exact hh, rest⟩

end Go.Proofs.Qxb6625814a
