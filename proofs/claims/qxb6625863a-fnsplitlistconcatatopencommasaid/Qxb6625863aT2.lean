import Derived.Test.Qxb6625863aT1
namespace Go.Proofs.Qxb6625863a
open Go.RowKit
set_option linter.unusedVariables false
set_option linter.unusedSimpArgs false

theorem Try.info9 : (Try.prog.info? 9).map (fun i => (i.zero, i.size, i.bytes)) = some (some (.string ByteArray.empty), 1, 16) := by kernel_rfl

def strs (out : List (List UInt8)) : List Value := out.map (fun x => .string ⟨x.toArray⟩)
/-- An owned slice of strings. -/
def Lst (w : World) (B : Nat) (v : Value) (out : List (List UInt8)) : Prop := w.ownsRow B 9 1 v out.length (strs out)
theorem lst_add {w : World} {B : Nat} {v : Value} {out : List (List UInt8)} {s : ByteArray} (h : w.ownsRow B 9 1 v (out.length + 1) (strs out ++ [.string s])) : Lst w B v (out ++ [s.data.toList]) := by
  unfold Lst
  have e1 : (out ++ [s.data.toList]).length = out.length + 1 := by simp
  have e2 : strs (out ++ [s.data.toList]) = strs out ++ [.string s] := by simp [strs]
  rw [e1, e2]; exact h
theorem own_shape {w : World} {lo : Nat} {e : TypeId} {size : Nat} {v : Value} {n : Nat} {xs : List Value} (h : w.ownsRow lo e size v n xs) : ∃ a c, v = .slice a n c := by
  rcases h.2 with ⟨rfl, rfl⟩ | ⟨g, cap, cur, rfl, _⟩
  · exact ⟨none, 0, rfl⟩
  · exact ⟨_, _, rfl⟩
theorem ext_succ {line : ByteArray} {s k : Nat} (hs : s ≤ k) (hk : k < line.size) : (line.extract s (k + 1)).data.toList = (line.extract s k).data.toList ++ [line[k]] := by
  rw [ext_list, ext_list, show k + 1 - s = (k - s) + 1 by omega, List.take_add_one]
  congr 1
  rw [List.getElem?_drop, show s + (k - s) = k by omega]
  have h2 : k < line.data.toList.length := hk
  rw [List.getElem?_eq_getElem h2]
  rfl
theorem ext_self {line : ByteArray} {k : Nat} : (line.extract k k).data.toList = [] := by rw [ext_list]; simp

/-- It returns an owned list; the world has grown from w on. -/
def RetL (w : World) (fin : List (List UInt8)) (e : Ending) (w' : World) : Prop := ∃ v, e = .returned v ∧ Lst w' w.heap.size v fin ∧ Below w.heap.size w w'

def SRel (w : World) (field : ByteArray) (fin : List (List UInt8)) (v vs vq ve vi : Value) (wr : World) : Prop :=
  ∃ (k s : Nat) (q e : Bool) (out : List (List UInt8)), k ≤ field.size ∧ s ≤ k ∧ vi = .int .i64 k ∧ vs = .int .i64 s ∧ vq = .bool q ∧ ve = .bool e ∧ Hid (out ++ splitF q e (field.extract s k).data.toList (field.data.toList.drop k) = fin) ∧ Lst wr w.heap.size v out ∧ Below w.heap.size w wr ∧ out.length ≤ k

theorem srel_next {w wr : World} {field : ByteArray} {fin : List (List UInt8)} {k s : Nat} {q e q' e' : Bool} {out : List (List UInt8)} {v : Value} {i : Value} (hlt : k < field.size) (hs : s ≤ k) (HX : out ++ splitF q e (field.extract s k).data.toList (field.data.toList.drop k) = fin)
    (he : splitF q e (field.extract s k).data.toList (field[k] :: field.data.toList.drop (k + 1)) = splitF q' e' ((field.extract s k).data.toList ++ [field[k]]) (field.data.toList.drop (k + 1))) (hL : Lst wr w.heap.size v out) (hb : Below w.heap.size w wr) (ho : out.length ≤ k) (hi : i = .int .i64 ((k + 1 : Nat) : Int)) :
    SRel w field fin v (.int .i64 s) (.bool q') (.bool e') i wr := by
  refine ⟨k + 1, s, q', e', out, hlt, by omega, hi, rfl, rfl, rfl, ?_, hL, hb, by omega⟩
  show _ = _
  rw [ext_succ hs hlt, ← he, ← drop_at hlt]
  exact HX

set_option maxRecDepth 100000 in
set_option maxHeartbeats 2000000 in
theorem split12 (field : ByteArray) (w : World) (hs : field.size ≤ 2097152) : Calls Try.prog 12 #[.string field] w (RetL w (splitF false false [] field.data.toList)) := by
  obtain ⟨fin, hfin⟩ : ∃ fin, fin = splitF false false [] field.data.toList := ⟨_, rfl⟩
  rw [← hfin]
  have HR : SRel w field fin (.slice none 0 0) (.int .i64 0) (.bool false) (.bool false) (.int .i64 0) w := ⟨0, 0, false, false, [], Nat.zero_le _, Nat.le_refl _, rfl, rfl, rfl, rfl, by rw [ext_self]; exact hfin.symm, World.ownsRow_nil _ _ _ _, Below.refl _ _, Nat.le_refl _⟩
  clear hfin
  obtain ⟨i9, hi9, hz0, hz1, hz2⟩ := info_parts Try.info9
  go_enter Try.func12, Try.ntmps12
  go_wp2_with fail
  go_loopw [3, 4, 5, 6, 7, 8] (fun v vs vq ve vi _ wr => SRel w field fin v vs vq ve vi wr) (fun _ _ _ _ vi _ _ => field.size - (intOf vi).toNat)
  case atStart => exact HR
  case round =>
    clear HR
    obtain ⟨k, s, q, e, out, hk, hsk, rfl, rfl, rfl, rfl, HX, hL, hbel, hol⟩ := hrel
    have hlw := hbel.size
    obtain ⟨a, c, rfl⟩ := own_shape hL
    by_cases hlt : k < field.size
    · cases e with
      | true =>
        have HN := srel_next (i := .int .i64 ((k : Int) + 1)) hlt hsk HX.out (sp_esc _ _ _ _) hL hbel hol rfl
        clear HX
        go_wp2
        go_roundw
        case rel => exact HN
        case measure => simp [intOf]; omega
      | false =>
        cases q with
        | true =>
          by_cases h92 : field[k] = 92
          · have t92 : ((field[k].toNat : Int) == 92) = true := b_yes h92
            have HN := srel_next (i := .int .i64 ((k : Int) + 1)) hlt hsk HX.out (sp_bs _ _ _ h92) hL hbel hol rfl
            clear HX h92
            go_wp2
            go_roundw
            case rel => exact HN
            case measure => simp [intOf]; omega
          · have t92 : ((field[k].toNat : Int) == 92) = false := b_no h92
            by_cases h34 : field[k] = 34
            · have t34 : ((field[k].toNat : Int) == 34) = true := b_yes h34
              have HN := srel_next (i := .int .i64 ((k : Int) + 1)) hlt hsk HX.out (sp_q _ _ _ _ h34) hL hbel hol rfl
              clear HX h92 h34
              go_wp2
              go_roundw
              case rel => exact HN
              case measure => simp [intOf]; omega
            · have t34 : ((field[k].toNat : Int) == 34) = false := b_no h34
              have HN := srel_next (i := .int .i64 ((k : Int) + 1)) hlt hsk HX.out (sp_o _ _ _ _ (fun e => h92 e.2) h34 (fun e => absurd e.2 (by decide))) hL hbel hol rfl
              clear HX h92 h34
              go_wp2
              all_goals
                go_roundw
                case rel => exact HN
                case measure => simp [intOf]; omega
        | false =>
          by_cases h34 : field[k] = 34
          · have t34 : ((field[k].toNat : Int) == 34) = true := b_yes h34
            have HN := srel_next (i := .int .i64 ((k : Int) + 1)) hlt hsk HX.out (sp_q _ _ _ _ h34) hL hbel hol rfl
            clear HX h34
            go_wp2
            go_roundw
            case rel => exact HN
            case measure => simp [intOf]; omega
          · have t34 : ((field[k].toNat : Int) == 34) = false := b_no h34
            by_cases h44 : field[k] = 44
            · have t44 : ((field[k].toNat : Int) == 44) = true := b_yes h44
              have HX2 : Hid ((out ++ [(field.extract s k).data.toList]) ++ splitF false false (field.extract (k + 1) (k + 1)).data.toList (field.data.toList.drop (k + 1)) = fin) := by
                show _ = _
                have h := HX.out
                rw [drop_at hlt, sp_c _ _ _ h44] at h
                rw [ext_self, List.append_assoc]; exact h
              clear HX h34 h44
              have hown : wr.ownsRow w.heap.size 9 1 (.slice a out.length c) out.length (strs out) := hL
              go_wp2_with (at_builtin; refine wpList_append_lies _ rfl _ _ 23 rfl w.heap.size 9 i9 _ 1 16 Try.underlying23 hi9 hz0 hz1 hz2 rfl (by decide) (.slice a out.length c) out.length (strs out) rfl (hown.alloc _) ⟨wr.heap.size, 0, none⟩ 1 1 [.string (field.extract s k)] rfl rfl (World.news_of_block (heap_alloc_new wr _)) (by simp [Value.oneCell']) (by decide) (by unfold maxLen; omega) (by omega) (by simp; omega) _ rfl ?_; intro g' cp' w2 hown2 hgrow2 h5 h6; clear h5 h6)
              go_roundw
              case rel => exact ⟨k + 1, k + 1, false, false, _, hlt, Nat.le_refl _, by go_num, by go_num, rfl, rfl, HX2, lst_add hown2, (hbel.alloc (by omega) _).grown hgrow2 (by simp; omega) (fun j hj => (hown.lt j hj).1), by simp; omega⟩
              case measure => simp [intOf]; omega
            · have t44 : ((field[k].toNat : Int) == 44) = false := b_no h44
              have HN := srel_next (i := .int .i64 ((k : Int) + 1)) hlt hsk HX.out (sp_o _ _ _ _ (fun e => absurd e.1 (by decide)) h34 (fun e => h44 e.1)) hL hbel hol rfl
              clear HX h34 h44
              go_wp2
              go_roundw
              case rel => exact HN
              case measure => simp [intOf]; omega
    · obtain rfl : k = field.size := by omega
      obtain rfl : out ++ [(field.extract s field.size).data.toList] = fin := by
        have h := HX.out
        rw [drop_end hlt, sp_nil] at h
        exact h
      clear HX
      have hown : wr.ownsRow w.heap.size 9 1 (.slice a out.length c) out.length (strs out) := hL
      go_wp2_with (at_builtin; refine wpList_append_lies _ rfl _ _ 23 rfl w.heap.size 9 i9 _ 1 16 Try.underlying23 hi9 hz0 hz1 hz2 rfl (by decide) (.slice a out.length c) out.length (strs out) rfl (hown.alloc _) ⟨wr.heap.size, 0, none⟩ 1 1 [.string (field.extract s field.size)] rfl rfl (World.news_of_block (heap_alloc_new wr _)) (by simp [Value.oneCell']) (by decide) (by unfold maxLen; omega) (by omega) (by simp; omega) _ rfl ?_; intro g' cp' w2 hown2 hgrow2 h5 h6; clear h5 h6)
      go_ret
      exact ⟨_, rfl, lst_add hown2, (hbel.alloc (by omega) _).grown hgrow2 (by simp; omega) (fun j hj => (hown.lt j hj).1)⟩

theorem split6 (field : ByteArray) (w : World) (hs : field.size ≤ 2097152) : Calls Try.prog 6 #[.string field] w (RetL w (splitF false false [] field.data.toList)) := by
  go_enter Try.func6, Try.ntmps6
  go_wp2_with fail
  refine (split12 field w hs).mono ?_
  rintro e w1 ⟨v, rfl, h1, h2⟩
  go_wp2
  go_ret
  exact ⟨v, rfl, h1, h2⟩

end Go.Proofs.Qxb6625863a
