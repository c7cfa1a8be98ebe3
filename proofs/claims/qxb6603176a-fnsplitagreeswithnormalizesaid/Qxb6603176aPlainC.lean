/-
  The plain law: the parts of norm t against the parts of t with every '_' read as '-'.
-/
import Derived.Test.Qxb6603176aPlainB
namespace Go.Proofs.Qxb6603176a.Pl

theorem all_u8 {p : UInt8 → Prop} (h : ∀ n : Fin 256, p (UInt8.ofNat n.val)) : ∀ c, p c := fun c => by
  have := h ⟨c.toNat, c.toNat_lt⟩
  simpa using this

/-! ### What does not see the letters' case -/
theorem low_ne : ∀ c : UInt8, (low c != 45) = (c != 45) := by apply all_u8; decide +kernel
theorem low_isL : ∀ c : UInt8, isL (low c) = isL c := by apply all_u8; decide +kernel
theorem low_isD : ∀ c : UInt8, isD (low c) = isD c := by apply all_u8; decide +kernel
theorem low_up : ∀ c : UInt8, low (up c) = low c := by apply all_u8; decide +kernel
theorem low_low : ∀ c : UInt8, low (low c) = low c := by apply all_u8; decide +kernel
theorem low_45 : low 45 = 45 := by decide
theorem sep_dash1 : ∀ c : UInt8, sep c = true → dash c = 45 := by apply all_u8; decide +kernel
theorem sep_dash0 : ∀ c : UInt8, sep c = false → dash c = c ∧ (c != 45) = true := by apply all_u8; decide +kernel
theorem notL_low : ∀ c : UInt8, isL c = false → low c = c ∧ up c = c := by apply all_u8; decide +kernel
theorem isD_notL : ∀ c : UInt8, isD c = true → isL c = false := by apply all_u8; decide +kernel
theorem up_ne : ∀ c : UInt8, (up c != 45) = (c != 45) := by apply all_u8; decide +kernel

theorem word_low (l : List UInt8) : word (l.map low) = (word l).map low := by
  unfold word
  rw [List.takeWhile_map]
  congr 1
  apply congrArg (fun p => List.takeWhile p l)
  funext c
  exact low_ne c
theorem sub_low (t : List UInt8) (i : Nat) : sub (t.map low) i = (sub t i).map low := by
  unfold sub
  rw [List.length_map, ← List.map_drop, word_low]
  split <;> rfl
theorem isAll_low (l : List UInt8) (a d : Bool) : isAll (l.map low) a d = isAll l a d := by
  unfold isAll
  rw [List.all_map]
  apply congrArg (fun p => List.all l p)
  funext c
  simp [low_isL, low_isD]
theorem isExt_low (l : List UInt8) : isExt (l.map low) = isExt l := by unfold isExt; rw [isAll_low, List.length_map]
theorem isScr_low (l : List UInt8) : isScr (l.map low) = isScr l := by unfold isScr; rw [isAll_low, List.length_map]
theorem isReg_low (l : List UInt8) : isReg (l.map low) = isReg l := by unfold isReg; rw [isAll_low, isAll_low, List.length_map]
theorem endA_low (t : List UInt8) : endA (t.map low) = endA t := by unfold endA; rw [word_low, List.length_map]
theorem okA_low (t : List UInt8) : okA (t.map low) = okA t := by unfold okA; rw [endA_low, word_low, isAll_low]
theorem endB_low (t : List UInt8) : endB (t.map low) = endB t := by unfold endB; rw [endA_low, sub_low, isExt_low]
theorem endC_low (t : List UInt8) : endC (t.map low) = endC t := by unfold endC; rw [endB_low, sub_low, isScr_low]
theorem endD_low (t : List UInt8) : endD (t.map low) = endD t := by unfold endD; rw [endC_low, sub_low, isReg_low, List.length_map]

theorem low_caseL (c : UInt8) (n j idx : Nat) (e : Bool) : low (caseL c n j idx e) = low c := by
  unfold caseL
  split
  · split
    · exact low_up c
    · exact low_low c
  · rfl
theorem fmt_low (l : List UInt8) (idx : Nat) (e : Bool) : (fmt l idx e).map low = l.map low := by
  unfold fmt
  apply List.ext_getElem?
  intro k
  rw [List.getElem?_map, List.getElem?_mapIdx, List.getElem?_map]
  cases l[k]? with
  | none => rfl
  | some c => simp [low_caseL]
theorem go_low : ∀ (r c : List UInt8) (idx : Nat) (e : Bool), (go r c idx e).map low = c.map low ++ (r.map dash).map low
  | [], c, idx, e => by simp [go, fmt_low]
  | x :: r, c, idx, e => by
    unfold go
    split
    · rename_i h
      rw [List.map_append, fmt_low, List.map_cons, go_low r, low_45]
      simp [sep_dash1 x h, low_45]
    · rename_i h
      rw [go_low r]
      simp [(sep_dash0 x (by simpa using h)).1]
theorem norm_low (t : List UInt8) : (norm t).map low = (t.map dash).map low := by unfold norm; rw [go_low]; rfl

/-! ### The subtags of norm t -/
def wordS (l : List UInt8) : List UInt8 := l.takeWhile fun c => !sep c

theorem wordS_nosep : ∀ (l : List UInt8), ∀ c ∈ wordS l, sep c = false
  | [], c, hc => by simp [wordS] at hc
  | x :: l, c, hc => by
    unfold wordS at hc
    rw [List.takeWhile_cons] at hc
    cases h : sep x
    · rw [h] at hc
      simp only [Bool.not_false, if_true, List.mem_cons] at hc
      rcases hc with rfl | hc
      · exact h
      · exact wordS_nosep l c hc
    · rw [h] at hc; simp at hc
theorem word_dash : ∀ (l : List UInt8), word (l.map dash) = wordS l
  | [] => rfl
  | c :: l => by
    unfold word wordS
    rw [List.map_cons, List.takeWhile_cons, List.takeWhile_cons]
    have ih := word_dash l
    unfold word wordS at ih
    cases h : sep c
    · obtain ⟨h1, h2⟩ := sep_dash0 c h
      rw [h1, h2, ih]; rfl
    · rw [sep_dash1 c h]; rfl

theorem go_word : ∀ (r c : List UInt8) (idx : Nat) (e : Bool), go r c idx e =
    fmt (c ++ wordS r) idx (nextExt (c ++ wordS r) e) ++ (match r.drop (wordS r).length with | [] => [] | _ :: r' => 45 :: go r' [] (idx + 1) (nextExt (c ++ wordS r) e))
  | [], c, idx, e => by simp [go, wordS]
  | x :: r, c, idx, e => by
    cases h : sep x
    · have hw : wordS (x :: r) = x :: wordS r := by unfold wordS; rw [List.takeWhile_cons, h]; rfl
      rw [go, h, hw]
      simp only [Bool.false_eq_true, if_false]
      rw [go_word r]
      simp [List.append_assoc]
    · have hw : wordS (x :: r) = [] := by unfold wordS; rw [List.takeWhile_cons, h]; rfl
      rw [go, h, hw]
      simp

theorem caseL_ne (c : UInt8) (n j idx : Nat) (e : Bool) : (caseL c n j idx e != 45) = (c != 45) := by
  unfold caseL
  split
  · split
    · exact up_ne c
    · exact low_ne c
  · rfl
theorem word_of (h r : List UInt8) (hn : ∀ c ∈ h, (c != 45) = true) (hr : r = [] ∨ ∃ r', r = 45 :: r') : word (h ++ r) = h := by
  unfold word
  rw [List.takeWhile_append_of_pos hn]
  rcases hr with rfl | ⟨r', rfl⟩ <;> simp
theorem fmt_ne (l : List UInt8) (idx : Nat) (e : Bool) (h : ∀ c ∈ l, sep c = false) : ∀ c ∈ fmt l idx e, (c != 45) = true := by
  intro c hc
  unfold fmt at hc
  obtain ⟨k, hk, rfl⟩ := List.mem_mapIdx.1 hc
  rw [caseL_ne]
  exact (sep_dash0 _ (h _ (List.getElem_mem _))).2

/-- Where norm t, from a subtag's head on, is 'go' of what is left: the word there is that subtag, cased; behind its separator it is 'go' again. -/
theorem at_head (t : List UInt8) (p idx : Nat) (e : Bool) (hp : (norm t).drop p = go (t.drop p) [] idx e) :
    word ((norm t).drop p) = fmt (wordS (t.drop p)) idx (nextExt (wordS (t.drop p)) e) ∧
    (p + (wordS (t.drop p)).length < t.length → (norm t)[p + (wordS (t.drop p)).length]? = some 45 ∧
      (norm t).drop (p + (wordS (t.drop p)).length + 1) = go (t.drop (p + (wordS (t.drop p)).length + 1)) [] (idx + 1) (nextExt (wordS (t.drop p)) e)) := by
  have hg := go_word (t.drop p) [] idx e
  rw [← hp] at hg
  simp only [List.nil_append] at hg
  have hlen := fmt_length (wordS (t.drop p)) idx (nextExt (wordS (t.drop p)) e)
  rw [List.drop_drop] at hg
  constructor
  · rw [hg]
    apply word_of _ _ (fmt_ne _ _ _ (wordS_nosep _))
    cases t.drop (p + (wordS (t.drop p)).length) with
    | nil => exact .inl rfl
    | cons a r => exact .inr ⟨_, rfl⟩
  · intro hl
    rw [List.drop_eq_getElem_cons hl] at hg
    simp only at hg
    constructor
    · have := congrArg (fun l => l[(wordS (t.drop p)).length]?) hg
      simp only [List.getElem?_drop] at this
      rw [this, List.getElem?_append_right (by omega), hlen]; simp
    · have := congrArg (fun l => l.drop ((wordS (t.drop p)).length + 1)) hg
      simp only [List.drop_drop] at this
      rw [Nat.add_assoc p, this, List.drop_append, hlen]
      simp [List.drop_of_length_le, hlen, Nat.add_assoc]

/-! ### The law -/
theorem caseL_first (c : UInt8) (n j : Nat) (e : Bool) : caseL c n j 0 e = low c := by
  unfold caseL
  cases h : isL c
  · simp [(notL_low c h).1]
  · simp
theorem caseL_three (c : UInt8) (j idx : Nat) (e : Bool) : caseL c 3 j idx e = low c := by
  unfold caseL
  cases h : isL c
  · simp [(notL_low c h).1]
  · simp
theorem fmt_first (l : List UInt8) (e : Bool) : fmt l 0 e = l.map low := by
  unfold fmt
  apply List.ext_getElem?
  intro k
  rw [List.getElem?_mapIdx, List.getElem?_map]
  cases l[k]? with
  | none => rfl
  | some c => simp [caseL_first]
theorem fmt_three (l : List UInt8) (idx : Nat) (e : Bool) (h : l.length = 3) : fmt l idx e = l.map low := by
  unfold fmt
  apply List.ext_getElem?
  intro k
  rw [List.getElem?_mapIdx, List.getElem?_map]
  cases l[k]? with
  | none => rfl
  | some c => simp [h, caseL_three]
theorem isAll_mem {l : List UInt8} {a d : Bool} (h : isAll l a d = true) : ∀ c ∈ l, (a && isL c || d && isD c) = true := by
  unfold isAll at h; rw [List.all_eq_true] at h; exact h
theorem fmt_scr (l : List UInt8) (idx : Nat) (h : isScr l = true) (hi : 0 < idx) : fmt l idx false = title l := by
  unfold isScr at h
  simp only [Bool.and_eq_true, beq_iff_eq] at h
  obtain ⟨h4, ha⟩ := h
  have hm := isAll_mem ha
  match l, h4, hm with
  | [a, b, c, d], _, hm =>
    have ha := hm a (by simp); have hb := hm b (by simp); have hc := hm c (by simp); have hd := hm d (by simp)
    simp only [Bool.true_and, Bool.false_and, Bool.or_false] at ha hb hc hd
    simp [fmt, caseL, title, ha, hb, hc, hd, hi]
theorem fmt_reg (l : List UInt8) (idx : Nat) (h : isReg l = true) (hi : 0 < idx) : fmt l idx false = l.map up := by
  unfold isReg at h
  simp only [Bool.or_eq_true, Bool.and_eq_true, beq_iff_eq] at h
  rcases h with ⟨h2, ha⟩ | ⟨h3, ha⟩
  · have hm := isAll_mem ha
    match l, h2, hm with
    | [a, b], _, hm =>
      have ha := hm a (by simp); have hb := hm b (by simp)
      simp only [Bool.true_and, Bool.false_and, Bool.or_false] at ha hb
      simp [fmt, caseL, ha, hb, hi]
  · have hm := isAll_mem ha
    match l, h3, hm with
    | [a, b, c], _, hm =>
      have ha := isD_notL a (by simpa using hm a (by simp)); have hb := isD_notL b (by simpa using hm b (by simp)); have hc := isD_notL c (by simpa using hm c (by simp))
      simp [fmt, caseL, ha, hb, hc, (notL_low a ha).2, (notL_low b hb).2, (notL_low c hc).2]

/-- Behind position p (a separator, or the end) norm t is 'go' of what is left, at index idx, no singleton met. -/
def St (t : List UInt8) (p idx : Nat) : Prop := p < t.length → (norm t).drop (p + 1) = go (t.drop (p + 1)) [] idx false

theorem sub_dash (t : List UInt8) (p : Nat) (h : p < t.length) : sub (t.map dash) p = wordS (t.drop (p + 1)) := by
  unfold sub
  rw [List.length_map, if_neg (by omega), ← List.map_drop, word_dash]
theorem sub_norm {t : List UInt8} {p idx : Nat} (h : p < t.length) (hs : St t p idx) : sub (norm t) p = fmt (sub (t.map dash) p) idx (nextExt (sub (t.map dash) p) false) := by
  rw [sub_dash t p h]
  unfold sub
  rw [norm_length, if_neg (by omega)]
  exact (at_head t (p + 1) idx false (hs h)).1
theorem st_next {t : List UInt8} {p idx : Nat} (h : p < t.length) (hs : St t p idx) (hn : (sub (t.map dash) p).length ≠ 1) :
    St t (p + 1 + (sub (t.map dash) p).length) (idx + 1) := by
  intro hl
  rw [sub_dash t p h] at hl hn ⊢
  have := ((at_head t (p + 1) idx false (hs h)).2 hl).2
  rw [this]
  unfold nextExt
  rw [beq_false_of_ne hn]; rfl
theorem sub_pos {t : List UInt8} {p : Nat} (h : 0 < (sub t p).length) : p < t.length := by
  unfold sub at h
  split at h
  · simp at h
  · omega

theorem isScr_len {l : List UInt8} (h : isScr l = true) : l.length = 4 := by unfold isScr at h; simp at h; exact h.1
theorem isExt_len {l : List UInt8} (h : isExt l = true) : l.length = 3 := by unfold isExt at h; simp at h; exact h.1
theorem isReg_len {l : List UInt8} (h : isReg l = true) : 2 ≤ l.length := by
  unfold isReg at h; simp at h; rcases h with h | h <;> omega
theorem low_fix (l : List UInt8) : (l.map low).map low = l.map low := by
  rw [List.map_map]; apply List.map_congr_left; intro c _; exact low_low c

/-- The language of norm t is lower case; behind it the state is known. -/
theorem lang_fixed (t : List UInt8) (hok : okA (t.map dash) = true) :
    ((norm t).take (endB (t.map dash))).map low = (norm t).take (endB (t.map dash)) ∧ ∃ i, 0 < i ∧ St t (endB (t.map dash)) i := by
  have h2 : 2 ≤ endA (t.map dash) := by unfold okA at hok; simp only [Bool.and_eq_true, decide_eq_true_eq] at hok; exact hok.1.1
  have hA : endA (t.map dash) = (wordS t).length := by unfold endA; rw [word_dash]
  have hh := at_head t 0 0 false rfl
  simp only [List.drop_zero, Nat.zero_add] at hh
  obtain ⟨hw, hn⟩ := hh
  rw [fmt_first] at hw
  have hwl : (word (norm t)).length = endA (t.map dash) := by rw [hw, hA, List.length_map]
  have htake : (norm t).take (endA (t.map dash)) = (wordS t).map low := by rw [← hwl, ← word_eq_take, hw]
  have fixA : ((norm t).take (endA (t.map dash))).map low = (norm t).take (endA (t.map dash)) := by rw [htake, low_fix]
  have stA : St t (endA (t.map dash)) 1 := by
    intro hl
    rw [hA] at hl ⊢
    rw [(hn hl).2]
    unfold nextExt
    rw [beq_false_of_ne (by omega)]; rfl
  cases hx : decide (endA (t.map dash) ≤ 3) && isExt (sub (t.map dash) (endA (t.map dash)))
  · have e : endB (t.map dash) = endA (t.map dash) := by unfold endB; rw [hx]; rfl
    rw [e]
    exact ⟨fixA, 1, by omega, stA⟩
  · have e : endB (t.map dash) = endA (t.map dash) + 4 := by unfold endB; rw [hx]; rfl
    simp only [Bool.and_eq_true] at hx
    have h3 := isExt_len hx.2
    have hp : endA (t.map dash) < t.length := by have := sub_pos (t := t.map dash) (p := endA (t.map dash)) (by omega); simpa using this
    rw [e]
    refine ⟨?_, 2, by omega, ?_⟩
    · have h45 : (norm t)[endA (t.map dash)]? = some 45 := by rw [hA] at hp ⊢; exact (hn hp).1
      have hpn : endA (t.map dash) < (norm t).length := by rw [norm_length]; exact hp
      have hsub := sub_norm hp stA
      rw [fmt_three _ _ _ h3] at hsub
      have hs3 : (sub (norm t) (endA (t.map dash))).length = 3 := by rw [hsub, List.length_map, h3]
      have hsw : sub (norm t) (endA (t.map dash)) = ((norm t).drop (endA (t.map dash) + 1)).take 3 := by
        have e1 : sub (norm t) (endA (t.map dash)) = word ((norm t).drop (endA (t.map dash) + 1)) := by unfold sub; rw [if_neg (by omega)]
        rw [e1] at hs3 ⊢
        conv => lhs; rw [word_eq_take, hs3]
      have hdec : (norm t).take (endA (t.map dash) + 4) = (norm t).take (endA (t.map dash)) ++ 45 :: sub (norm t) (endA (t.map dash)) := by
        rw [List.take_add, List.drop_eq_getElem_cons hpn, List.take_succ_cons, hsw]
        congr 2
        rw [List.getElem?_eq_getElem hpn] at h45
        exact Option.some.inj h45
      rw [hdec, List.map_append, fixA, List.map_cons, low_45, hsub, low_fix]
    · have := st_next hp stA (by omega)
      rw [h3] at this
      exact this

theorem law (t : List UInt8) :
    (parts (t.map dash)).ok = (parts (norm t)).ok ∧ (parts (t.map dash)).le = (parts (norm t)).le ∧ (parts (t.map dash)).se = (parts (norm t)).se ∧ (parts (t.map dash)).re = (parts (norm t)).re ∧
    (parts (norm t)).lang = (parts (t.map dash)).lang.map low ∧ (parts (norm t)).script = title (parts (t.map dash)).script ∧ (parts (norm t)).region = (parts (t.map dash)).region.map up := by
  have hlow := norm_low t
  have eok : okA (norm t) = okA (t.map dash) := by rw [← okA_low, hlow, okA_low]
  have eA : endA (norm t) = endA (t.map dash) := by rw [← endA_low, hlow, endA_low]
  have eB : endB (norm t) = endB (t.map dash) := by rw [← endB_low, hlow, endB_low]
  have eC : endC (norm t) = endC (t.map dash) := by rw [← endC_low, hlow, endC_low]
  have eD : endD (norm t) = endD (t.map dash) := by rw [← endD_low, hlow, endD_low]
  have eScr : ∀ i, isScr (sub (norm t) i) = isScr (sub (t.map dash) i) := fun i => by rw [← isScr_low, ← sub_low, hlow, sub_low, isScr_low]
  have eReg : ∀ i, isReg (sub (norm t) i) = isReg (sub (t.map dash) i) := fun i => by rw [← isReg_low, ← sub_low, hlow, sub_low, isReg_low]
  cases hok : okA (t.map dash)
  · unfold parts
    rw [eok, hok]
    simp [title]
  · have p1 : parts (t.map dash) = { lang := (t.map dash).take (endB (t.map dash)), script := if isScr (sub (t.map dash) (endB (t.map dash))) then sub (t.map dash) (endB (t.map dash)) else [], region := if isReg (sub (t.map dash) (endC (t.map dash))) then sub (t.map dash) (endC (t.map dash)) else [], le := endB (t.map dash), se := endC (t.map dash), re := endD (t.map dash), ok := true } := by
      unfold parts; rw [hok]; rfl
    have p2 : parts (norm t) = { lang := (norm t).take (endB (t.map dash)), script := if isScr (sub (t.map dash) (endB (t.map dash))) then sub (norm t) (endB (t.map dash)) else [], region := if isReg (sub (t.map dash) (endC (t.map dash))) then sub (norm t) (endC (t.map dash)) else [], le := endB (t.map dash), se := endC (t.map dash), re := endD (t.map dash), ok := true } := by
      unfold parts; rw [eok, hok, eB, eC, eD, eScr, eReg]; rfl
    rw [p1, p2]
    obtain ⟨hfix, i, hi, hst⟩ := lang_fixed t hok
    refine ⟨rfl, rfl, rfl, rfl, ?_, ?_, ?_⟩
    · show (norm t).take _ = ((t.map dash).take _).map low
      rw [List.map_take, ← hlow, ← List.map_take, hfix]
    · show (if _ then _ else _) = title (if _ then _ else _)
      cases hs : isScr (sub (t.map dash) (endB (t.map dash)))
      · rfl
      · have h4 := (isScr_len hs)
        have hp : endB (t.map dash) < t.length := by have := sub_pos (t := t.map dash) (p := endB (t.map dash)) (by omega); simpa using this
        simp only [if_true]
        rw [sub_norm hp hst]
        unfold nextExt
        rw [h4]
        exact fmt_scr _ i hs hi
    · show (if _ then _ else _) = (if _ then _ else _ : List UInt8).map up
      cases hr : isReg (sub (t.map dash) (endC (t.map dash)))
      · rfl
      · have hl := isReg_len hr
        have hp : endC (t.map dash) < t.length := by have := sub_pos (t := t.map dash) (p := endC (t.map dash)) (by omega); simpa using this
        simp only [if_true]
        obtain ⟨i2, hi2, hst2⟩ : ∃ i2, 0 < i2 ∧ St t (endC (t.map dash)) i2 := by
          cases hs : isScr (sub (t.map dash) (endB (t.map dash)))
          · have e : endC (t.map dash) = endB (t.map dash) := by unfold endC; rw [hs]; rfl
            exact ⟨i, hi, by rw [e]; exact hst⟩
          · have h4 := (isScr_len hs)
            have e : endC (t.map dash) = endB (t.map dash) + 1 + (sub (t.map dash) (endB (t.map dash))).length := by unfold endC; rw [hs, h4]; rfl
            have hpb : endB (t.map dash) < t.length := by have := sub_pos (t := t.map dash) (p := endB (t.map dash)) (by omega); simpa using this
            exact ⟨i + 1, by omega, by rw [e]; exact st_next hpb hst (by omega)⟩
        rw [sub_norm hp hst2]
        unfold nextExt
        rw [beq_false_of_ne (by omega)]
        exact fmt_reg _ i2 hr hi2

end Go.Proofs.Qxb6603176a.Pl
