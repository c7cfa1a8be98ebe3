/-
  The walk of Normalize.
-/
import Derived.Test.Qxb6603176aSet
import Derived.Test.Qxb6603176aCase
import Derived.Test.Qxb6603176aPlainB
namespace Go.Proofs.Qxb6603176a
open Go.RowKit
set_option linter.unusedVariables false

theorem at_getD (s : ByteArray) (k : Nat) (h : k < s.size) : s.data.toList.getD k 0 = s[k] := by
  rw [List.getD_eq_getElem?_getD, List.getElem?_eq_getElem (by rw [len_toList]; exact h)]; rfl
theorem at_getElem (s : ByteArray) (k : Nat) (h : k < s.size) (h' : k < s.data.toList.length) : s.data.toList[k] = s[k] := rfl

theorem sep_class : ∀ c : UInt8, (Pl.sep c = false → (((c.toNat : Int) != 45) = true ∧ ¬ (c.toNat : Int) = 45) ∧ (((c.toNat : Int) != 95) = true ∧ ¬ (c.toNat : Int) = 95)) ∧ (Pl.sep c = true → c = 45 ∨ c = 95) := by
  apply forall_u8; decide +kernel

theorem VB.tag {s : ByteArray} {B : Nat} {w : World} {buf : List UInt8} (h : VB s B w buf) : w.cell? ⟨B, 0, none⟩ = some (.string s) := cell_of_one h.1

theorem vb_start (s : ByteArray) (w : World) : VB s w.heap.size ((w.alloc (.cells #[.string s] 9)).alloc (.cells #[.slice none 0 0] 34)) s.data.toList := by
  refine ⟨?_, len_toList s, .inl ⟨?_, rfl⟩⟩
  · rw [Below.heap_alloc _ _ _ (by simp)]; exact heap_alloc_new _ _
  · have := heap_alloc_new (w.alloc (.cells #[.string s] 9)) (.cells #[.slice none 0 0] 34)
    simpa using this

/-- The state at the outer loop's head, before the end. -/
structure Mid (s : ByteArray) (w wr : World) (i st idx : Nat) (ext : Bool) (out : List UInt8) : Prop where
  len : out.length = st
  nrm : Pl.norm s.data.toList = out ++ Pl.go (s.data.toList.drop i) (Pl.cur s.data.toList st i) idx ext
  mem : VB s w.heap.size wr (out ++ s.data.toList.drop st)
  bel : Below w.heap.size w wr

theorem mid_on {s : ByteArray} {w wr : World} {i st idx : Nat} {ext : Bool} {out : List UInt8} (h : Mid s w wr i st idx ext out) (hi : i < s.size) (hst : st ≤ i) (hs : Pl.sep s[i] = false) : Mid s w wr (i + 1) st idx ext out := by
  have hi' : i < s.data.toList.length := by rw [len_toList]; exact hi
  refine ⟨h.len, ?_, h.mem, h.bel⟩
  rw [h.nrm, Pl.go_on _ i _ idx ext hi' (by rw [at_getElem s i hi]; exact hs), Pl.cur_snoc _ st i hst hi']

theorem beq_cast (N : Nat) : ((N : Int) == 1) = (N == 1) := by
  by_cases h : N = 1
  · subst h; rfl
  · rw [beq_false_of_ne h, beq_false_of_ne (by omega)]
theorem next_len {t : List UInt8} {st i : Nat} (h : (Pl.cur t st i).length = i - st) : Pl.nextExt (Pl.cur t st i) false = (i - st == 1) := by
  unfold Pl.nextExt; rw [h]; simp
theorem inner_step (s : ByteArray) (w2 : World) (B i st j N J idx : Nat) (X : Bool) (out F : List UInt8) (c' : UInt8) (hj1 : st ≤ j) (hji : j < i) (his : i ≤ s.size) (ho : out.length = st)
    (hF : F = Pl.fmt (Pl.cur s.data.toList st i) idx X) (hN : N = i - st) (hJ : J = j - st) (hjs : j < s.size) (hc : Pl.caseL s[j] N J idx X = c') (hV : VB s B w2 (Pl.mid s.data.toList out F st (j - st))) :
    (c' = s[j] → VB s B w2 (Pl.mid s.data.toList out F st (j + 1 - st))) ∧ (∀ w3, VB s B w3 ((Pl.mid s.data.toList out F st (j - st)).set j c') → VB s B w3 (Pl.mid s.data.toList out F st (j + 1 - st))) := by
  have hl : i ≤ s.data.toList.length := by rw [len_toList]; exact his
  have hFl : F.length = i - st := by rw [hF, Pl.fmt_length, Pl.cur_length _ _ _ hl]
  have hg : F.getD (j - st) 0 = c' := by
    rw [hF, Pl.fmt_get _ st i (j - st) idx X hl (by omega), show st + (j - st) = j by omega, at_getD s j hjs, ← hN, ← hJ, hc]
  have e1 : j + 1 - st = (j - st) + 1 := by omega
  refine ⟨fun h => ?_, fun w3 h => ?_⟩
  · rw [e1, ← Pl.mid_same _ out F st (j - st) ho (by omega) (by omega) (by rw [hg, show st + (j - st) = j by omega, at_getD s j hjs]; exact h)]
    exact hV
  · rw [e1, ← Pl.mid_step _ out F st (j - st) ho (by omega) (by omega), hg, show st + (j - st) = j by omega]
    exact h
theorem under_step (s : ByteArray) (w w2 : World) (i st idx : Nat) (ext X : Bool) (out F : List UInt8) (hsi : st ≤ i) (hi : i < s.size) {wr : World} (hM : Mid s w wr i st idx ext out)
    (hX : Pl.nextExt (Pl.cur s.data.toList st i) ext = X) (hF : F = Pl.fmt (Pl.cur s.data.toList st i) idx X) (hu : s[i] = 95) (hV : VB s w.heap.size w2 (Pl.mid s.data.toList out F st (i - st))) :
    ∀ w3, VB s w.heap.size w3 ((Pl.mid s.data.toList out F st (i - st)).set i 45) → Below w.heap.size w w3 → Mid s w w3 (i + 1) (i + 1) (idx + 1) X (out ++ F ++ [45]) := by
  intro w3 h3 hb
  have hl : i < s.data.toList.length := by rw [len_toList]; exact hi
  have hFl : F.length = i - st := by rw [hF, Pl.fmt_length, Pl.cur_length _ _ _ (by omega)]
  have ho := hM.len
  refine ⟨by simp; omega, ?_, ?_, hb⟩
  · rw [hM.nrm, Pl.go_sep _ i _ idx ext hl (by rw [at_getElem s i hi, hu]; rfl), hX, ← hF, Pl.cur_self]; simp
  · rw [Pl.mid_full _ out F st i hsi hFl, Pl.sep_under _ out F i hl (by simp; omega)] at h3
    exact h3
theorem dash_step (s : ByteArray) (w w2 : World) (i st idx : Nat) (ext X : Bool) (out F : List UInt8) (hsi : st ≤ i) (hi : i < s.size) {wr : World} (hM : Mid s w wr i st idx ext out)
    (hX : Pl.nextExt (Pl.cur s.data.toList st i) ext = X) (hF : F = Pl.fmt (Pl.cur s.data.toList st i) idx X) (hu : s[i] = 45) (hV : VB s w.heap.size w2 (Pl.mid s.data.toList out F st (i - st))) (hb : Below w.heap.size w w2) :
    Mid s w w2 (i + 1) (i + 1) (idx + 1) X (out ++ F ++ [45]) := by
  have hl : i < s.data.toList.length := by rw [len_toList]; exact hi
  have hFl : F.length = i - st := by rw [hF, Pl.fmt_length, Pl.cur_length _ _ _ (by omega)]
  have ho := hM.len
  refine ⟨by simp; omega, ?_, ?_, hb⟩
  · rw [hM.nrm, Pl.go_sep _ i _ idx ext hl (by rw [at_getElem s i hi, hu]; rfl), hX, ← hF, Pl.cur_self]; simp
  · rw [Pl.mid_full _ out F st i hsi hFl, Pl.sep_dash _ out F i hl (by rw [at_getElem s i hi]; exact hu)] at hV
    exact hV
theorem end_step (s : ByteArray) (w w2 : World) (i st idx : Nat) (ext X : Bool) (out F : List UInt8) (hsi : st ≤ i) (hi : i = s.size) {wr : World} (hM : Mid s w wr i st idx ext out)
    (hX : Pl.nextExt (Pl.cur s.data.toList st i) ext = X) (hF : F = Pl.fmt (Pl.cur s.data.toList st i) idx X) (hV : VB s w.heap.size w2 (Pl.mid s.data.toList out F st (i - st))) :
    VB s w.heap.size w2 (Pl.norm s.data.toList) := by
  have hl : i = s.data.toList.length := by rw [len_toList]; exact hi
  have hFl : F.length = i - st := by rw [hF, Pl.fmt_length, Pl.cur_length _ _ _ (by omega)]
  rw [Pl.mid_full _ out F st i hsi hFl] at hV
  have e := hM.nrm
  rw [hl, Pl.go_end, ← hl, hX, ← hF] at e
  rw [e]
  rw [List.drop_of_length_le (by omega), List.append_nil] at hV
  exact hV
theorem set_dash (s : ByteArray) (B i : Nat) (w : World) (buf : List UInt8) (hi : i < s.size) (hs : s.size ≤ 1048576) (h : VB s B w buf) :
    Calls Try.prog 34 #[.int .i64 i, .int .u8 45, .pointer (some ⟨B + 1, 0, none⟩), .pointer (some ⟨B, 0, none⟩)] w fun e w' => e = .returned (.tuple #[]) ∧ VB s B w' (buf.set i 45) ∧ Below B w w' :=
  set_any s B i 45 w buf hi hs h

set_option maxRecDepth 100000 in
set_option maxHeartbeats 2000000 in
theorem norm_any (s : ByteArray) (w : World) (hs : s.size ≤ 1048576) :
    Calls Try.prog 23 #[.string s] w fun e w' => (∃ r : ByteArray, e = .returned (.string r) ∧ r.data.toList = Pl.norm s.data.toList) ∧ Below w.heap.size w w' := by
  go_enter Try.func23, Try.ntmps23
  go_wp2
  go_loopw [5, 6, 7, 8] (fun vst vidx vext vi wr => (∃ (i st idx : Nat) (ext : Bool) (out : List UInt8), st ≤ i ∧ i ≤ s.size ∧ idx ≤ st ∧ vi = .int .i64 i ∧ vst = .int .i64 st ∧ vidx = .int .i64 idx ∧ vext = .bool ext ∧ Mid s w wr i st idx ext out) ∨
      (∃ (st idx : Nat) (ext : Bool), vi = .int .i64 ((s.size + 1 : Nat) : Int) ∧ vst = .int .i64 st ∧ vidx = .int .i64 idx ∧ vext = .bool ext ∧ Hid (VB s w.heap.size wr (Pl.norm s.data.toList)) ∧ Hid (Below w.heap.size w wr)))
    (fun _ _ _ vi _ => s.size + 1 - (intOf vi).toNat)
  case atStart =>
    refine .inl ⟨0, 0, 0, false, [], Nat.zero_le _, Nat.zero_le _, Nat.zero_le _, rfl, rfl, rfl, rfl, rfl, ?_, ?_, ?_⟩
    · simp [Pl.norm, Pl.cur]
    · simpa using vb_start s w
    · exact ((Below.refl _ _).alloc (Nat.le_refl _) _).alloc (by simp) _
  case round =>
    rcases hrel with ⟨i, st, idx, ext, out, hsi, his, hidx, rfl, rfl, rfl, rfl, hM⟩ | ⟨st, idx, ext, rfl, rfl, rfl, rfl, hV, hB⟩
    · have htag := hM.mem.tag
      by_cases hlt : i < s.size
      · cases hsep : Pl.sep s[i]
        · obtain ⟨⟨h45, n45⟩, ⟨h95, n95⟩⟩ := (sep_class s[i]).1 hsep
          have HS : Hid (Pl.sep s[i] = false) := hsep
          clear hsep
          go_wp2
          go_roundw
          case rel => exact .inl ⟨i + 1, st, idx, ext, out, by omega, by omega, hidx, by go_num, rfl, rfl, rfl, mid_on hM hlt hsi HS.out⟩
          case measure => simp [intOf]; omega
        · have hcl := Pl.cur_length s.data.toList st i (by rw [len_toList]; omega)
          rcases (sep_class s[i]).2 hsep with h45 | h95
          · have HU : Hid (s[i] = 45) := h45
            have k1 : ((s[i].toNat : Int) != 45) = false := by rw [h45]; rfl
            have k2 : ((s[i].toNat : Int) == 95) = false := by rw [h45]; rfl
            have k3 : (s[i].toNat : Int) = 45 := by rw [h45]; rfl
            clear h45 hsep
            obtain ⟨N, HN⟩ : ∃ N : Nat, N = i - st := ⟨_, rfl⟩
            have hN : (i : Int) - (st : Int) = (N : Int) := by omega
            have hNb : N ≤ 1048576 := by omega
            have HN' : Hid (N = i - st) := HN
            clear HN
            obtain ⟨X, HX, hX⟩ : ∃ X : Bool, Hid (Pl.nextExt (Pl.cur s.data.toList st i) ext = X) ∧ (ext = false → ((N : Int) == 1) = X) := ⟨_, rfl, fun h => by subst h; rw [next_len hcl]; rw [← HN'.out]; exact beq_cast N⟩
            obtain ⟨F, HF⟩ : ∃ F : List UInt8, Hid (F = Pl.fmt (Pl.cur s.data.toList st i) idx X) := ⟨_, rfl⟩
            have HM : Hid (Mid s w wr i st idx ext out) := hM
            clear hM hcl
            cases ext
            · have hx := hX rfl
              clear hX
              go_wp2
              go_loopw [10] (fun vj w2 => ∃ j : Nat, st ≤ j ∧ j ≤ i ∧ vj = .int .i64 j ∧ Hid (VB s w.heap.size w2 (Pl.mid s.data.toList out F st (j - st))) ∧ Hid (Below w.heap.size w w2)) (fun vj _ => i - (intOf vj).toNat)
              case atStart => exact ⟨st, Nat.le_refl _, hsi, rfl, by rw [Nat.sub_self, Pl.mid_zero]; exact HM.out.mem, HM.out.bel⟩
              case round =>
                obtain ⟨j, hj1, hj2, rfl, hV2, hB2⟩ := hrel
                have htag2 := hV2.out.tag
                by_cases hji : j < i
                · have hjs : j < s.size := by omega
                  obtain ⟨J, HJ⟩ : ∃ J : Nat, J = j - st := ⟨_, rfl⟩
                  have hJ : (j : Int) - (st : Int) = (J : Int) := by omega
                  have hJb : J ≤ 1048576 := by omega
                  have HJ' : Hid (J = j - st) := HJ
                  clear HJ
                  obtain ⟨c', hc'⟩ : ∃ c', Pl.caseL s[j] N J idx X = c' := ⟨_, rfl⟩
                  have HC : Hid (∀ W, Calls Try.prog 35 #[.int .u8 (s[j].toNat : Int), .int .i64 N, .int .i64 J, .int .i64 idx, .bool X] W fun e w' => e = .returned (.int .u8 (c'.toNat : Int)) ∧ w' = W) := fun W => by rw [← hc']; exact case_any s[j] N J idx _ W hNb hJb (by omega)
                  have HS := inner_step s wr w.heap.size i st j N J idx _ out F c' hj1 hji his HM.out.len HF.out HN'.out HJ'.out hjs hc' hV2.out
                  clear hc'
                  by_cases heq : c' = s[j]
                  · have hne : ((c'.toNat : Int) != (s[j].toNat : Int)) = false := by rw [heq]; simp
                    have hne2 : (c'.toNat : Int) = (s[j].toNat : Int) := by rw [heq]
                    have HS2 : Hid (VB s w.heap.size wr (Pl.mid s.data.toList out F st (j + 1 - st))) := HS.1 heq
                    clear HS heq
                    clear hne2
                    go_wp2_with fail
                    refine (HC.out _).mono ?_
                    rintro e w' ⟨rfl, rfl⟩
                    go_wp2_with fail
                    go_roundw
                    case rel => exact ⟨j + 1, by omega, by omega, by go_num, HS2.out, hB2.out⟩
                    case measure => simp [intOf]; omega
                  · have hne : ((c'.toNat : Int) != (s[j].toNat : Int)) = true := by rw [bne_iff_ne]; intro h; exact heq (UInt8.toNat_inj.1 (by omega))
                    have HS2 : Hid (∀ w3, VB s w.heap.size w3 ((Pl.mid s.data.toList out F st (j - st)).set j c') → VB s w.heap.size w3 (Pl.mid s.data.toList out F st (j + 1 - st))) := HS.2
                    clear HS heq
                    go_wp2_with fail
                    refine (HC.out _).mono ?_
                    rintro e w' ⟨rfl, rfl⟩
                    go_wp2_with fail
                    refine (set_any s w.heap.size j c' _ _ hjs hs (by exact hV2.out)).mono ?_
                    rintro e w3 ⟨rfl, hV3, hB3⟩
                    have HV3 : Hid (VB s w.heap.size w3 (Pl.mid s.data.toList out F st (j + 1 - st))) := HS2.out _ hV3
                    have HB3 : Hid (Below w.heap.size w w3) := hB2.out.trans hB3
                    clear hV3 hB3
                    go_wp2_with fail
                    go_roundw
                    case rel => exact ⟨j + 1, by omega, by omega, by go_num, HV3.out, HB3.out⟩
                    case measure => simp [intOf]; omega
                · obtain rfl : j = i := by omega
                  have HM3 : Hid (Mid s w wr (j + 1) (j + 1) (idx + 1) X (out ++ F ++ [45])) := dash_step s w wr j st idx _ _ out F hj1 hlt HM.out HX.out HF.out HU.out hV2.out hB2.out
                  go_wp2_with fail
                  go_roundw
                  case rel => exact .inl ⟨j + 1, j + 1, idx + 1, _, _, by omega, by omega, by omega, by go_num, by go_num, by go_num, rfl, HM3.out⟩
                  case measure => simp [intOf]; omega
            · obtain rfl : X = true := HX.out.symm
              clear hX
              go_wp2
              go_loopw [10] (fun vj w2 => ∃ j : Nat, st ≤ j ∧ j ≤ i ∧ vj = .int .i64 j ∧ Hid (VB s w.heap.size w2 (Pl.mid s.data.toList out F st (j - st))) ∧ Hid (Below w.heap.size w w2)) (fun vj _ => i - (intOf vj).toNat)
              case atStart => exact ⟨st, Nat.le_refl _, hsi, rfl, by rw [Nat.sub_self, Pl.mid_zero]; exact HM.out.mem, HM.out.bel⟩
              case round =>
                obtain ⟨j, hj1, hj2, rfl, hV2, hB2⟩ := hrel
                have htag2 := hV2.out.tag
                by_cases hji : j < i
                · have hjs : j < s.size := by omega
                  obtain ⟨J, HJ⟩ : ∃ J : Nat, J = j - st := ⟨_, rfl⟩
                  have hJ : (j : Int) - (st : Int) = (J : Int) := by omega
                  have hJb : J ≤ 1048576 := by omega
                  have HJ' : Hid (J = j - st) := HJ
                  clear HJ
                  obtain ⟨c', hc'⟩ : ∃ c', Pl.caseL s[j] N J idx true = c' := ⟨_, rfl⟩
                  have HC : Hid (∀ W, Calls Try.prog 35 #[.int .u8 (s[j].toNat : Int), .int .i64 N, .int .i64 J, .int .i64 idx, .bool true] W fun e w' => e = .returned (.int .u8 (c'.toNat : Int)) ∧ w' = W) := fun W => by rw [← hc']; exact case_any s[j] N J idx _ W hNb hJb (by omega)
                  have HS := inner_step s wr w.heap.size i st j N J idx _ out F c' hj1 hji his HM.out.len HF.out HN'.out HJ'.out hjs hc' hV2.out
                  clear hc'
                  by_cases heq : c' = s[j]
                  · have hne : ((c'.toNat : Int) != (s[j].toNat : Int)) = false := by rw [heq]; simp
                    have hne2 : (c'.toNat : Int) = (s[j].toNat : Int) := by rw [heq]
                    have HS2 : Hid (VB s w.heap.size wr (Pl.mid s.data.toList out F st (j + 1 - st))) := HS.1 heq
                    clear HS heq
                    clear hne2
                    go_wp2_with fail
                    refine (HC.out _).mono ?_
                    rintro e w' ⟨rfl, rfl⟩
                    go_wp2_with fail
                    go_roundw
                    case rel => exact ⟨j + 1, by omega, by omega, by go_num, HS2.out, hB2.out⟩
                    case measure => simp [intOf]; omega
                  · have hne : ((c'.toNat : Int) != (s[j].toNat : Int)) = true := by rw [bne_iff_ne]; intro h; exact heq (UInt8.toNat_inj.1 (by omega))
                    have HS2 : Hid (∀ w3, VB s w.heap.size w3 ((Pl.mid s.data.toList out F st (j - st)).set j c') → VB s w.heap.size w3 (Pl.mid s.data.toList out F st (j + 1 - st))) := HS.2
                    clear HS heq
                    go_wp2_with fail
                    refine (HC.out _).mono ?_
                    rintro e w' ⟨rfl, rfl⟩
                    go_wp2_with fail
                    refine (set_any s w.heap.size j c' _ _ hjs hs (by exact hV2.out)).mono ?_
                    rintro e w3 ⟨rfl, hV3, hB3⟩
                    have HV3 : Hid (VB s w.heap.size w3 (Pl.mid s.data.toList out F st (j + 1 - st))) := HS2.out _ hV3
                    have HB3 : Hid (Below w.heap.size w w3) := hB2.out.trans hB3
                    clear hV3 hB3
                    go_wp2_with fail
                    go_roundw
                    case rel => exact ⟨j + 1, by omega, by omega, by go_num, HV3.out, HB3.out⟩
                    case measure => simp [intOf]; omega
                · obtain rfl : j = i := by omega
                  have HM3 : Hid (Mid s w wr (j + 1) (j + 1) (idx + 1) true (out ++ F ++ [45])) := dash_step s w wr j st idx _ _ out F hj1 hlt HM.out HX.out HF.out HU.out hV2.out hB2.out
                  go_wp2_with fail
                  go_roundw
                  case rel => exact .inl ⟨j + 1, j + 1, idx + 1, _, _, by omega, by omega, by omega, by go_num, by go_num, by go_num, rfl, HM3.out⟩
                  case measure => simp [intOf]; omega
          · have HU : Hid (s[i] = 95) := h95
            have k1 : ((s[i].toNat : Int) != 45) = true := by rw [h95]; rfl
            have k2 : ((s[i].toNat : Int) == 95) = true := by rw [h95]; rfl
            have k4 : ((s[i].toNat : Int) != 95) = false := by rw [h95]; rfl
            have k3 : (s[i].toNat : Int) = 95 := by rw [h95]; rfl
            clear h95 hsep
            obtain ⟨N, HN⟩ : ∃ N : Nat, N = i - st := ⟨_, rfl⟩
            have hN : (i : Int) - (st : Int) = (N : Int) := by omega
            have hNb : N ≤ 1048576 := by omega
            have HN' : Hid (N = i - st) := HN
            clear HN
            obtain ⟨X, HX, hX⟩ : ∃ X : Bool, Hid (Pl.nextExt (Pl.cur s.data.toList st i) ext = X) ∧ (ext = false → ((N : Int) == 1) = X) := ⟨_, rfl, fun h => by subst h; rw [next_len hcl]; rw [← HN'.out]; exact beq_cast N⟩
            obtain ⟨F, HF⟩ : ∃ F : List UInt8, Hid (F = Pl.fmt (Pl.cur s.data.toList st i) idx X) := ⟨_, rfl⟩
            have HM : Hid (Mid s w wr i st idx ext out) := hM
            clear hM hcl
            cases ext
            · have hx := hX rfl
              clear hX
              go_wp2
              go_loopw [10] (fun vj w2 => ∃ j : Nat, st ≤ j ∧ j ≤ i ∧ vj = .int .i64 j ∧ Hid (VB s w.heap.size w2 (Pl.mid s.data.toList out F st (j - st))) ∧ Hid (Below w.heap.size w w2)) (fun vj _ => i - (intOf vj).toNat)
              case atStart => exact ⟨st, Nat.le_refl _, hsi, rfl, by rw [Nat.sub_self, Pl.mid_zero]; exact HM.out.mem, HM.out.bel⟩
              case round =>
                obtain ⟨j, hj1, hj2, rfl, hV2, hB2⟩ := hrel
                have htag2 := hV2.out.tag
                by_cases hji : j < i
                · have hjs : j < s.size := by omega
                  obtain ⟨J, HJ⟩ : ∃ J : Nat, J = j - st := ⟨_, rfl⟩
                  have hJ : (j : Int) - (st : Int) = (J : Int) := by omega
                  have hJb : J ≤ 1048576 := by omega
                  have HJ' : Hid (J = j - st) := HJ
                  clear HJ
                  obtain ⟨c', hc'⟩ : ∃ c', Pl.caseL s[j] N J idx X = c' := ⟨_, rfl⟩
                  have HC : Hid (∀ W, Calls Try.prog 35 #[.int .u8 (s[j].toNat : Int), .int .i64 N, .int .i64 J, .int .i64 idx, .bool X] W fun e w' => e = .returned (.int .u8 (c'.toNat : Int)) ∧ w' = W) := fun W => by rw [← hc']; exact case_any s[j] N J idx _ W hNb hJb (by omega)
                  have HS := inner_step s wr w.heap.size i st j N J idx _ out F c' hj1 hji his HM.out.len HF.out HN'.out HJ'.out hjs hc' hV2.out
                  clear hc'
                  by_cases heq : c' = s[j]
                  · have hne : ((c'.toNat : Int) != (s[j].toNat : Int)) = false := by rw [heq]; simp
                    have hne2 : (c'.toNat : Int) = (s[j].toNat : Int) := by rw [heq]
                    have HS2 : Hid (VB s w.heap.size wr (Pl.mid s.data.toList out F st (j + 1 - st))) := HS.1 heq
                    clear HS heq
                    clear hne2
                    go_wp2_with fail
                    refine (HC.out _).mono ?_
                    rintro e w' ⟨rfl, rfl⟩
                    go_wp2_with fail
                    go_roundw
                    case rel => exact ⟨j + 1, by omega, by omega, by go_num, HS2.out, hB2.out⟩
                    case measure => simp [intOf]; omega
                  · have hne : ((c'.toNat : Int) != (s[j].toNat : Int)) = true := by rw [bne_iff_ne]; intro h; exact heq (UInt8.toNat_inj.1 (by omega))
                    have HS2 : Hid (∀ w3, VB s w.heap.size w3 ((Pl.mid s.data.toList out F st (j - st)).set j c') → VB s w.heap.size w3 (Pl.mid s.data.toList out F st (j + 1 - st))) := HS.2
                    clear HS heq
                    go_wp2_with fail
                    refine (HC.out _).mono ?_
                    rintro e w' ⟨rfl, rfl⟩
                    go_wp2_with fail
                    refine (set_any s w.heap.size j c' _ _ hjs hs (by exact hV2.out)).mono ?_
                    rintro e w3 ⟨rfl, hV3, hB3⟩
                    have HV3 : Hid (VB s w.heap.size w3 (Pl.mid s.data.toList out F st (j + 1 - st))) := HS2.out _ hV3
                    have HB3 : Hid (Below w.heap.size w w3) := hB2.out.trans hB3
                    clear hV3 hB3
                    go_wp2_with fail
                    go_roundw
                    case rel => exact ⟨j + 1, by omega, by omega, by go_num, HV3.out, HB3.out⟩
                    case measure => simp [intOf]; omega
                · obtain rfl : j = i := by omega
                  have HE := under_step s w wr j st idx _ _ out F hj1 hlt HM.out HX.out HF.out HU.out hV2.out
                  go_wp2_with fail
                  refine (set_dash s w.heap.size j _ _ hlt hs (by exact hV2.out)).mono ?_
                  rintro e w3 ⟨rfl, hV3, hB3⟩
                  have HM3 : Hid (Mid s w w3 (j + 1) (j + 1) (idx + 1) X (out ++ F ++ [45])) := HE w3 hV3 (hB2.out.trans hB3)
                  clear HE hV3 hB3
                  go_wp2_with fail
                  go_roundw
                  case rel => exact .inl ⟨j + 1, j + 1, idx + 1, _, _, by omega, by omega, by omega, by go_num, by go_num, by go_num, rfl, HM3.out⟩
                  case measure => simp [intOf]; omega
            · obtain rfl : X = true := HX.out.symm
              clear hX
              go_wp2
              go_loopw [10] (fun vj w2 => ∃ j : Nat, st ≤ j ∧ j ≤ i ∧ vj = .int .i64 j ∧ Hid (VB s w.heap.size w2 (Pl.mid s.data.toList out F st (j - st))) ∧ Hid (Below w.heap.size w w2)) (fun vj _ => i - (intOf vj).toNat)
              case atStart => exact ⟨st, Nat.le_refl _, hsi, rfl, by rw [Nat.sub_self, Pl.mid_zero]; exact HM.out.mem, HM.out.bel⟩
              case round =>
                obtain ⟨j, hj1, hj2, rfl, hV2, hB2⟩ := hrel
                have htag2 := hV2.out.tag
                by_cases hji : j < i
                · have hjs : j < s.size := by omega
                  obtain ⟨J, HJ⟩ : ∃ J : Nat, J = j - st := ⟨_, rfl⟩
                  have hJ : (j : Int) - (st : Int) = (J : Int) := by omega
                  have hJb : J ≤ 1048576 := by omega
                  have HJ' : Hid (J = j - st) := HJ
                  clear HJ
                  obtain ⟨c', hc'⟩ : ∃ c', Pl.caseL s[j] N J idx true = c' := ⟨_, rfl⟩
                  have HC : Hid (∀ W, Calls Try.prog 35 #[.int .u8 (s[j].toNat : Int), .int .i64 N, .int .i64 J, .int .i64 idx, .bool true] W fun e w' => e = .returned (.int .u8 (c'.toNat : Int)) ∧ w' = W) := fun W => by rw [← hc']; exact case_any s[j] N J idx _ W hNb hJb (by omega)
                  have HS := inner_step s wr w.heap.size i st j N J idx _ out F c' hj1 hji his HM.out.len HF.out HN'.out HJ'.out hjs hc' hV2.out
                  clear hc'
                  by_cases heq : c' = s[j]
                  · have hne : ((c'.toNat : Int) != (s[j].toNat : Int)) = false := by rw [heq]; simp
                    have hne2 : (c'.toNat : Int) = (s[j].toNat : Int) := by rw [heq]
                    have HS2 : Hid (VB s w.heap.size wr (Pl.mid s.data.toList out F st (j + 1 - st))) := HS.1 heq
                    clear HS heq
                    clear hne2
                    go_wp2_with fail
                    refine (HC.out _).mono ?_
                    rintro e w' ⟨rfl, rfl⟩
                    go_wp2_with fail
                    go_roundw
                    case rel => exact ⟨j + 1, by omega, by omega, by go_num, HS2.out, hB2.out⟩
                    case measure => simp [intOf]; omega
                  · have hne : ((c'.toNat : Int) != (s[j].toNat : Int)) = true := by rw [bne_iff_ne]; intro h; exact heq (UInt8.toNat_inj.1 (by omega))
                    have HS2 : Hid (∀ w3, VB s w.heap.size w3 ((Pl.mid s.data.toList out F st (j - st)).set j c') → VB s w.heap.size w3 (Pl.mid s.data.toList out F st (j + 1 - st))) := HS.2
                    clear HS heq
                    go_wp2_with fail
                    refine (HC.out _).mono ?_
                    rintro e w' ⟨rfl, rfl⟩
                    go_wp2_with fail
                    refine (set_any s w.heap.size j c' _ _ hjs hs (by exact hV2.out)).mono ?_
                    rintro e w3 ⟨rfl, hV3, hB3⟩
                    have HV3 : Hid (VB s w.heap.size w3 (Pl.mid s.data.toList out F st (j + 1 - st))) := HS2.out _ hV3
                    have HB3 : Hid (Below w.heap.size w w3) := hB2.out.trans hB3
                    clear hV3 hB3
                    go_wp2_with fail
                    go_roundw
                    case rel => exact ⟨j + 1, by omega, by omega, by go_num, HV3.out, HB3.out⟩
                    case measure => simp [intOf]; omega
                · obtain rfl : j = i := by omega
                  have HE := under_step s w wr j st idx _ _ out F hj1 hlt HM.out HX.out HF.out HU.out hV2.out
                  go_wp2_with fail
                  refine (set_dash s w.heap.size j _ _ hlt hs (by exact hV2.out)).mono ?_
                  rintro e w3 ⟨rfl, hV3, hB3⟩
                  have HM3 : Hid (Mid s w w3 (j + 1) (j + 1) (idx + 1) true (out ++ F ++ [45])) := HE w3 hV3 (hB2.out.trans hB3)
                  clear HE hV3 hB3
                  go_wp2_with fail
                  go_roundw
                  case rel => exact .inl ⟨j + 1, j + 1, idx + 1, _, _, by omega, by omega, by omega, by go_num, by go_num, by go_num, rfl, HM3.out⟩
                  case measure => simp [intOf]; omega
      · have hcl := Pl.cur_length s.data.toList st i (by rw [len_toList]; omega)
        have hlt' : decide ((i : Int) < (s.size : Int)) = false := by simp; omega
        obtain ⟨N, HN⟩ : ∃ N : Nat, N = i - st := ⟨_, rfl⟩
        have hN : (i : Int) - (st : Int) = (N : Int) := by omega
        have hNb : N ≤ 1048576 := by omega
        have HN' : Hid (N = i - st) := HN
        clear HN
        obtain ⟨X, HX, hX⟩ : ∃ X : Bool, Hid (Pl.nextExt (Pl.cur s.data.toList st i) ext = X) ∧ (ext = false → ((N : Int) == 1) = X) := ⟨_, rfl, fun h => by subst h; rw [next_len hcl]; rw [← HN'.out]; exact beq_cast N⟩
        obtain ⟨F, HF⟩ : ∃ F : List UInt8, Hid (F = Pl.fmt (Pl.cur s.data.toList st i) idx X) := ⟨_, rfl⟩
        have HM : Hid (Mid s w wr i st idx ext out) := hM
        clear hM hcl
        cases ext
        · have hx := hX rfl
          clear hX
          go_wp2
          go_loopw [10] (fun vj w2 => ∃ j : Nat, st ≤ j ∧ j ≤ i ∧ vj = .int .i64 j ∧ Hid (VB s w.heap.size w2 (Pl.mid s.data.toList out F st (j - st))) ∧ Hid (Below w.heap.size w w2)) (fun vj _ => i - (intOf vj).toNat)
          case atStart => exact ⟨st, Nat.le_refl _, hsi, rfl, by rw [Nat.sub_self, Pl.mid_zero]; exact HM.out.mem, HM.out.bel⟩
          case round =>
            obtain ⟨j, hj1, hj2, rfl, hV2, hB2⟩ := hrel
            have htag2 := hV2.out.tag
            by_cases hji : j < i
            · have hjs : j < s.size := by omega
              obtain ⟨J, HJ⟩ : ∃ J : Nat, J = j - st := ⟨_, rfl⟩
              have hJ : (j : Int) - (st : Int) = (J : Int) := by omega
              have hJb : J ≤ 1048576 := by omega
              have HJ' : Hid (J = j - st) := HJ
              clear HJ
              obtain ⟨c', hc'⟩ : ∃ c', Pl.caseL s[j] N J idx X = c' := ⟨_, rfl⟩
              have HC : Hid (∀ W, Calls Try.prog 35 #[.int .u8 (s[j].toNat : Int), .int .i64 N, .int .i64 J, .int .i64 idx, .bool X] W fun e w' => e = .returned (.int .u8 (c'.toNat : Int)) ∧ w' = W) := fun W => by rw [← hc']; exact case_any s[j] N J idx _ W hNb hJb (by omega)
              have HS := inner_step s wr w.heap.size i st j N J idx _ out F c' hj1 hji his HM.out.len HF.out HN'.out HJ'.out hjs hc' hV2.out
              clear hc'
              by_cases heq : c' = s[j]
              · have hne : ((c'.toNat : Int) != (s[j].toNat : Int)) = false := by rw [heq]; simp
                have hne2 : (c'.toNat : Int) = (s[j].toNat : Int) := by rw [heq]
                have HS2 : Hid (VB s w.heap.size wr (Pl.mid s.data.toList out F st (j + 1 - st))) := HS.1 heq
                clear HS heq
                clear hne2
                go_wp2_with fail
                refine (HC.out _).mono ?_
                rintro e w' ⟨rfl, rfl⟩
                go_wp2_with fail
                go_roundw
                case rel => exact ⟨j + 1, by omega, by omega, by go_num, HS2.out, hB2.out⟩
                case measure => simp [intOf]; omega
              · have hne : ((c'.toNat : Int) != (s[j].toNat : Int)) = true := by rw [bne_iff_ne]; intro h; exact heq (UInt8.toNat_inj.1 (by omega))
                have HS2 : Hid (∀ w3, VB s w.heap.size w3 ((Pl.mid s.data.toList out F st (j - st)).set j c') → VB s w.heap.size w3 (Pl.mid s.data.toList out F st (j + 1 - st))) := HS.2
                clear HS heq
                go_wp2_with fail
                refine (HC.out _).mono ?_
                rintro e w' ⟨rfl, rfl⟩
                go_wp2_with fail
                refine (set_any s w.heap.size j c' _ _ hjs hs (by exact hV2.out)).mono ?_
                rintro e w3 ⟨rfl, hV3, hB3⟩
                have HV3 : Hid (VB s w.heap.size w3 (Pl.mid s.data.toList out F st (j + 1 - st))) := HS2.out _ hV3
                have HB3 : Hid (Below w.heap.size w w3) := hB2.out.trans hB3
                clear hV3 hB3
                go_wp2_with fail
                go_roundw
                case rel => exact ⟨j + 1, by omega, by omega, by go_num, HV3.out, HB3.out⟩
                case measure => simp [intOf]; omega
            · obtain rfl : j = i := by omega
              have HM3 : Hid (VB s w.heap.size wr (Pl.norm s.data.toList)) := end_step s w wr j st idx _ _ out F hj1 (by omega) HM.out HX.out HF.out hV2.out
              go_wp2_with fail
              go_roundw
              case rel => exact .inr ⟨j + 1, idx + 1, _, by go_num, by go_num, by go_num, rfl, HM3.out, hB2.out⟩
              case measure => simp [intOf]; omega
        · obtain rfl : X = true := HX.out.symm
          clear hX
          go_wp2
          go_loopw [10] (fun vj w2 => ∃ j : Nat, st ≤ j ∧ j ≤ i ∧ vj = .int .i64 j ∧ Hid (VB s w.heap.size w2 (Pl.mid s.data.toList out F st (j - st))) ∧ Hid (Below w.heap.size w w2)) (fun vj _ => i - (intOf vj).toNat)
          case atStart => exact ⟨st, Nat.le_refl _, hsi, rfl, by rw [Nat.sub_self, Pl.mid_zero]; exact HM.out.mem, HM.out.bel⟩
          case round =>
            obtain ⟨j, hj1, hj2, rfl, hV2, hB2⟩ := hrel
            have htag2 := hV2.out.tag
            by_cases hji : j < i
            · have hjs : j < s.size := by omega
              obtain ⟨J, HJ⟩ : ∃ J : Nat, J = j - st := ⟨_, rfl⟩
              have hJ : (j : Int) - (st : Int) = (J : Int) := by omega
              have hJb : J ≤ 1048576 := by omega
              have HJ' : Hid (J = j - st) := HJ
              clear HJ
              obtain ⟨c', hc'⟩ : ∃ c', Pl.caseL s[j] N J idx true = c' := ⟨_, rfl⟩
              have HC : Hid (∀ W, Calls Try.prog 35 #[.int .u8 (s[j].toNat : Int), .int .i64 N, .int .i64 J, .int .i64 idx, .bool true] W fun e w' => e = .returned (.int .u8 (c'.toNat : Int)) ∧ w' = W) := fun W => by rw [← hc']; exact case_any s[j] N J idx _ W hNb hJb (by omega)
              have HS := inner_step s wr w.heap.size i st j N J idx _ out F c' hj1 hji his HM.out.len HF.out HN'.out HJ'.out hjs hc' hV2.out
              clear hc'
              by_cases heq : c' = s[j]
              · have hne : ((c'.toNat : Int) != (s[j].toNat : Int)) = false := by rw [heq]; simp
                have hne2 : (c'.toNat : Int) = (s[j].toNat : Int) := by rw [heq]
                have HS2 : Hid (VB s w.heap.size wr (Pl.mid s.data.toList out F st (j + 1 - st))) := HS.1 heq
                clear HS heq
                clear hne2
                go_wp2_with fail
                refine (HC.out _).mono ?_
                rintro e w' ⟨rfl, rfl⟩
                go_wp2_with fail
                go_roundw
                case rel => exact ⟨j + 1, by omega, by omega, by go_num, HS2.out, hB2.out⟩
                case measure => simp [intOf]; omega
              · have hne : ((c'.toNat : Int) != (s[j].toNat : Int)) = true := by rw [bne_iff_ne]; intro h; exact heq (UInt8.toNat_inj.1 (by omega))
                have HS2 : Hid (∀ w3, VB s w.heap.size w3 ((Pl.mid s.data.toList out F st (j - st)).set j c') → VB s w.heap.size w3 (Pl.mid s.data.toList out F st (j + 1 - st))) := HS.2
                clear HS heq
                go_wp2_with fail
                refine (HC.out _).mono ?_
                rintro e w' ⟨rfl, rfl⟩
                go_wp2_with fail
                refine (set_any s w.heap.size j c' _ _ hjs hs (by exact hV2.out)).mono ?_
                rintro e w3 ⟨rfl, hV3, hB3⟩
                have HV3 : Hid (VB s w.heap.size w3 (Pl.mid s.data.toList out F st (j + 1 - st))) := HS2.out _ hV3
                have HB3 : Hid (Below w.heap.size w w3) := hB2.out.trans hB3
                clear hV3 hB3
                go_wp2_with fail
                go_roundw
                case rel => exact ⟨j + 1, by omega, by omega, by go_num, HV3.out, HB3.out⟩
                case measure => simp [intOf]; omega
            · obtain rfl : j = i := by omega
              have HM3 : Hid (VB s w.heap.size wr (Pl.norm s.data.toList)) := end_step s w wr j st idx _ _ out F hj1 (by omega) HM.out HX.out HF.out hV2.out
              go_wp2_with fail
              go_roundw
              case rel => exact .inr ⟨j + 1, idx + 1, _, by go_num, by go_num, by go_num, rfl, HM3.out, hB2.out⟩
              case measure => simp [intOf]; omega
    · have htag := hV.out.tag
      obtain ⟨_, hl, hV2 | ⟨g, cap, n, row, hb, hg, hrow, hn, hcells⟩⟩ := hV.out
      · have hcb := cell_of_one hV2.1
        have HQ : Hid (Pl.norm s.data.toList = s.data.toList) := hV2.2
        have hq := fun (W : World) (a : Option Addr) (n c : Nat) => Lib.run_eql_slice_nil (P := Try.prog) W 34 5 a n c 0 0 Try.underlying34
        clear hV2 hl
        go_wp2
        go_ret
        exact ⟨⟨s, rfl, HQ.out.symm⟩, hB.out⟩
      · have hcb := cell_of_one hb
        have hq := fun (W : World) (a : Option Addr) (n c : Nat) => Lib.run_eql_slice_nil (P := Try.prog) W 34 5 a n c 0 0 Try.underlying34
        have kc := run_convert_bytes_back (P := Try.prog) wr 34 9 5 ⟨g, 0, none⟩ cap (Pl.norm s.data.toList) Try.underlying34 Try.underlying5 Try.underlying9 (fun j hj => by
          rw [Addr.add_lit, Nat.zero_add, cell_marked hrow j, hcells j (by omega), List.getD_eq_getElem?_getD, List.getElem?_eq_getElem hj]; rfl)
        rw [hl] at kc
        clear hb hrow hcells hl
        go_wp2
        go_ret
        exact ⟨⟨_, rfl, rfl⟩, hB.out⟩

end Go.Proofs.Qxb6603176a
