/-
  Plain lemmas for Normalize's loops.
-/
import Derived.Test.Qxb6603176aPlain
namespace Go.Proofs.Qxb6603176a.Pl

def cur (t : List UInt8) (st i : Nat) : List UInt8 := (t.drop st).take (i - st)

theorem cur_length (t : List UInt8) (st i : Nat) (h : i ≤ t.length) : (cur t st i).length = i - st := by
  unfold cur; simp; omega
theorem cur_self (t : List UInt8) (i : Nat) : cur t i i = [] := by simp [cur]
theorem cur_snoc (t : List UInt8) (st i : Nat) (h1 : st ≤ i) (h2 : i < t.length) : cur t st (i + 1) = cur t st i ++ [t[i]] := by
  unfold cur
  rw [show i + 1 - st = (i - st) + 1 by omega, List.take_succ_eq_append_getElem (by simp; omega)]
  congr 2
  rw [List.getElem_drop]
  congr 1; omega
theorem cur_get (t : List UInt8) (st i m : Nat) (hm : st + m < i) : (cur t st i)[m]? = t[st + m]? := by
  unfold cur
  rw [List.getElem?_take, if_pos (by omega), List.getElem?_drop]
theorem go_on (t : List UInt8) (i : Nat) (c : List UInt8) (idx : Nat) (ext : Bool) (h : i < t.length) (hs : sep t[i] = false) :
    go (t.drop i) c idx ext = go (t.drop (i + 1)) (c ++ [t[i]]) idx ext := by
  rw [List.drop_eq_getElem_cons h, go, hs]; rfl
theorem go_sep (t : List UInt8) (i : Nat) (c : List UInt8) (idx : Nat) (ext : Bool) (h : i < t.length) (hs : sep t[i] = true) :
    go (t.drop i) c idx ext = fmt c idx (nextExt c ext) ++ 45 :: go (t.drop (i + 1)) [] (idx + 1) (nextExt c ext) := by
  rw [List.drop_eq_getElem_cons h, go, hs]; rfl
theorem go_end (t : List UInt8) (c : List UInt8) (idx : Nat) (ext : Bool) : go (t.drop t.length) c idx ext = fmt c idx (nextExt c ext) := by
  rw [List.drop_length]; rfl

/-- The row, m bytes of the subtag done. -/
def mid (t out F : List UInt8) (st m : Nat) : List UInt8 := out ++ F.take m ++ t.drop (st + m)

theorem mid_zero (t out F : List UInt8) (st : Nat) : mid t out F st 0 = out ++ t.drop st := by simp [mid]
theorem mid_length (t out F : List UInt8) (st m : Nat) (ho : out.length = st) (hm : m ≤ F.length) (hl : st + m ≤ t.length) : (mid t out F st m).length = t.length := by
  simp [mid]; omega
theorem mid_step (t out F : List UInt8) (st m : Nat) (ho : out.length = st) (hm : m < F.length) (hl : st + m < t.length) : (mid t out F st m).set (st + m) (F.getD m 0) = mid t out F st (m + 1) := by
  have e : F.getD m 0 = F[m] := by rw [List.getD_eq_getElem?_getD, List.getElem?_eq_getElem hm]; rfl
  rw [e]
  unfold mid
  have h1 : (out ++ F.take m).length = st + m := by simp; omega
  rw [List.set_append_right _ _ (by omega), h1, Nat.sub_self, List.drop_eq_getElem_cons hl]
  rw [List.set_cons_zero, List.take_succ_eq_append_getElem hm]
  simp only [List.append_assoc, Nat.add_assoc, List.cons_append, List.nil_append]
theorem mid_get (t out F : List UInt8) (st m : Nat) (ho : out.length = st) (hm : m < F.length) : (mid t out F st m)[st + m]? = t[st + m]? := by
  unfold mid
  have h1 : (out ++ F.take m).length = st + m := by simp; omega
  rw [List.getElem?_append_right (by omega), h1, List.getElem?_drop]
  simp
theorem mid_same (t out F : List UInt8) (st m : Nat) (ho : out.length = st) (hm : m < F.length) (hl : st + m < t.length) (he : F.getD m 0 = t.getD (st + m) 0) : mid t out F st m = mid t out F st (m + 1) := by
  have hlen := mid_length t out F st m ho (by omega) (by omega)
  rw [← mid_step t out F st m ho hm hl, he]
  apply List.ext_getElem?
  intro k
  by_cases e : st + m = k
  · subst e
    rw [List.getElem?_set_self (by omega), mid_get t out F st m ho hm, List.getD_eq_getElem?_getD, List.getElem?_eq_getElem hl]; rfl
  · rw [List.getElem?_set_ne e]
theorem mid_full (t out F : List UInt8) (st i : Nat) (hi : st ≤ i) (hF : F.length = i - st) : mid t out F st (i - st) = out ++ F ++ t.drop i := by
  unfold mid
  rw [List.take_of_length_le (by omega), show st + (i - st) = i by omega]
theorem fmt_get (t : List UInt8) (st i m idx : Nat) (e : Bool) (h : i ≤ t.length) (hm : st + m < i) :
    (fmt (cur t st i) idx e).getD m 0 = caseL (t.getD (st + m) 0) (i - st) m idx e := by
  unfold fmt
  rw [List.getD_eq_getElem?_getD, List.getElem?_mapIdx, cur_get t st i m hm, cur_length t st i h, List.getD_eq_getElem?_getD, List.getElem?_eq_getElem (by omega)]
  rfl
/-- Behind a separator. -/
theorem sep_dash (t out F : List UInt8) (i : Nat) (h : i < t.length) (hc : t[i] = 45) : out ++ F ++ t.drop i = (out ++ F ++ [45]) ++ t.drop (i + 1) := by
  rw [List.drop_eq_getElem_cons h, hc]; simp
theorem sep_under (t out F : List UInt8) (i : Nat) (h : i < t.length) (hl : (out ++ F).length = i) : (out ++ F ++ t.drop i).set i 45 = (out ++ F ++ [45]) ++ t.drop (i + 1) := by
  rw [List.set_append_right _ _ (by omega), hl, Nat.sub_self, List.drop_eq_getElem_cons h, List.set_cons_zero]; simp

end Go.Proofs.Qxb6603176a.Pl
