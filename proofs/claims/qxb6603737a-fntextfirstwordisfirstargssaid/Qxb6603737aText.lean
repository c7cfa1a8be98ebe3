/-
  The walk of (*Item).Text.
-/
import Derived.Test.Qxb6603737aArgs
import Derived.Test.Qxb6603737aShelf
namespace Go.Proofs.Qxb6603737a
open Go.RowKit
set_option linter.unusedVariables false

theorem sumTo_mono (xs : List ByteArray) (a b : Nat) (h : a ≤ b) : sumTo xs a ≤ sumTo xs b := by
  unfold sumTo
  obtain ⟨d, rfl⟩ : ∃ d, b = a + d := ⟨b - a, by omega⟩
  rw [List.take_add, List.map_append, List.sum_append]
  omega

/-- The first k strings, a space between each two. -/
def jt (xs : List ByteArray) : Nat → List UInt8
  | 0 => []
  | k + 1 => jt xs k ++ (if 0 < k then [32] else []) ++ (xs.getD k ByteArray.empty).data.toList
theorem jt_len (xs : List ByteArray) : ∀ k, k ≤ xs.length → (jt xs k).length ≤ k + sumTo xs k
  | 0, _ => by simp [jt]
  | k + 1, h => by
    have := jt_len xs k (by omega)
    rw [jt, List.length_append, List.length_append, len_toList, sumTo_succ xs k (by omega)]
    split <;> simp <;> omega
theorem jt_head (xs : List ByteArray) : ∀ k, ∃ r, jt xs (k + 1) = (xs.getD 0 ByteArray.empty).data.toList ++ r ∧ (r = [] ∨ ∃ r', r = 32 :: r')
  | 0 => ⟨[], by simp [jt], .inl rfl⟩
  | k + 1 => by
    obtain ⟨r, h, hr⟩ := jt_head xs k
    refine ⟨r ++ ([32] ++ (xs.getD (k + 1) ByteArray.empty).data.toList), ?_, .inr ?_⟩
    · rw [jt, h, if_pos (by omega)]; simp only [List.append_assoc]
    · rcases hr with rfl | ⟨r', rfl⟩
      · exact ⟨_, rfl⟩
      · exact ⟨_, rfl⟩
theorem we_jt (xs : List ByteArray) (n : Nat) (h : 0 < n) : Pl.we (jt xs n) = Pl.we (xs.getD 0 ByteArray.empty).data.toList := by
  obtain ⟨k, rfl⟩ : ∃ k, n = k + 1 := ⟨n - 1, by omega⟩
  obtain ⟨r, h, hr⟩ := jt_head xs k
  rw [h, Pl.we_append _ _ hr]
theorem bytes_step (xs : List ByteArray) (k : Nat) (h : 0 < k) : Lib.byteCells (jt xs k) ++ [Value.int .u8 32] ++ Lib.strCells (xs.getD k ByteArray.empty) = Lib.byteCells (jt xs (k + 1)) := by
  rw [jt, if_pos h, Lib.byteCells_append, Lib.byteCells_append]; rfl
theorem bytes_first (xs : List ByteArray) : Lib.byteCells (jt xs 0) ++ Lib.strCells (xs.getD 0 ByteArray.empty) = Lib.byteCells (jt xs 1) := by
  simp [jt, Lib.strCells_eq, Lib.byteCells]

set_option maxHeartbeats 2000000 in
theorem text_some (I n : Nat) (b off : Nat) (xs : List ByteArray) (w : World) (h0 : 0 < n) (hn : n ≤ 65536) (hl : xs.length = n) (hsum : sumTo xs n ≤ 1048576) (hI : I < w.heap.size) (hb : b < w.heap.size)
    (hIc : w.cell? ⟨I, 1, none⟩ = some (.slice (some ⟨b, off, none⟩) n n)) (hc : ∀ i, i < n → w.cell? ⟨b, off + i, none⟩ = some (.string (xs.getD i ByteArray.empty))) :
    Calls Try.prog 15 #[.pointer (some ⟨I, 0, none⟩)] w fun e w' => e = .returned (.string ⟨(jt xs n).toArray⟩) ∧ Below w.heap.size w w' := by
  have HC : Hid (∀ i, i < n → w.cell? ⟨b, off + i, none⟩ = some (.string (xs.getD i ByteArray.empty))) := hc
  have HL : Hid (xs.length = n) := hl
  have HIC : Hid (w.cell? ⟨I, 1, none⟩ = some (.slice (some ⟨b, off, none⟩) n n)) := hIc
  have HSUM : Hid (sumTo xs n ≤ 1048576) := hsum
  clear hc hl hsum
  obtain ⟨M, hM⟩ : ∃ M : Nat, M = n - 1 := ⟨_, rfl⟩
  have hmax : max ((n : Int) - 1) 0 = (M : Int) := by omega
  have HM : Hid (M = n - 1) := hM
  clear hM
  go_enter Try.func15, Try.ntmps15
  go_wp2
  go_loop [3, 5, 21] (fun v _ i => ∃ k z : Nat, k ≤ n ∧ i = .int .i64 k ∧ v = .int .i64 z ∧ z ≤ 2000000 ∧ Hid (z = M + sumTo xs k)) (fun _ _ i => n - (intOf i).toNat)
  case atStart => exact ⟨0, M, Nat.zero_le _, rfl, rfl, by have := HM.out; omega, by show M = _; rw [sumTo_zero]; rfl⟩
  case round =>
    obtain ⟨k, z, hk, rfl, rfl, hz, HZ⟩ := hrel
    by_cases hlt : k < n
    · have hcell := HC.out k hlt
      have HS : Hid (sumTo xs (k + 1) = sumTo xs k + (xs.getD k ByteArray.empty).size) := sumTo_succ xs k (by rw [HL.out]; exact hlt)
      have hbd : z + (xs.getD k ByteArray.empty).size ≤ 2000000 := by
        have h1 := sumTo_mono xs (k + 1) n (by omega)
        have := HSUM.out; have := HS.out; have := HZ.out; have := HM.out; omega
      generalize xs.getD k ByteArray.empty = x at *
      go_wp2
      go_round
      case rel => exact ⟨k + 1, z + x.size, by omega, by go_num, by go_num, hbd, by show _ = _; have := HS.out; have := HZ.out; omega⟩
      case measure => simp [intOf]; omega
    · obtain rfl : k = n := by omega
      go_wp2_with fail
      refine (Try.Builder_Grow_fresh w.heap.size w.heap.size z _ (Nat.le_refl _) (by exact heap_alloc_new w _) (by simp) (by omega)).mono ?_
      rintro e w2 ⟨rfl, hB2, hbel2⟩
      have HB2 : Hid (Lib.BuilderAt 38 5 w.heap.size w.heap.size (.pointer (some ⟨w.heap.size, 0, none⟩)) [] w2) := hB2
      have HBE : Hid (Below w.heap.size w w2) := ((Below.refl _ _).alloc (Nat.le_refl _) _).trans hbel2
      clear hB2 hbel2
      have hIc2 := (HBE.out.cell (p := ⟨I, 1, none⟩) hI).trans HIC.out
      clear hIc
      go_wp2_with fail
      go_loopw [7, 8, 37] (fun _ _ i wr => ∃ q : Nat, q ≤ k ∧ i = .int .i64 q ∧ Hid (Lib.BuilderAt 38 5 w.heap.size w.heap.size (.pointer (some ⟨w.heap.size, 0, none⟩)) (Lib.byteCells (jt xs q)) wr) ∧ Hid (Below w.heap.size w wr)) (fun _ _ i _ => k - (intOf i).toNat)
      case atStart => exact ⟨0, Nat.zero_le _, rfl, HB2.out, HBE.out⟩
      case round =>
        obtain ⟨q, hq, rfl, hbu, hbe⟩ := hrel
        by_cases hqk : q < k
        · have hcell := (hbe.out.cell (p := ⟨b, off + q, none⟩) hb).trans (HC.out q hqk)
          have HJ : Hid ((jt xs q).length + 1 + (xs.getD q ByteArray.empty).size ≤ 140737488355328) := by
            show _ ≤ _
            have h1 := sumTo_mono xs (q + 1) k (by omega)
            have h2 := sumTo_succ xs q (by rw [HL.out]; exact hqk)
            have h3 := jt_len xs q (by rw [HL.out]; omega)
            have := HSUM.out
            omega
          have hsz := hbe.out.size
          by_cases hq0 : 0 < q
          · have HST := (show Hid _ from bytes_step xs q hq0)
            generalize hx : xs.getD q ByteArray.empty = x at *
            clear hx
            go_wp2_with fail
            refine (Try.Builder_WriteByte w.heap.size w.heap.size _ 32 _ (.inr (by exact hbu.out)) (by rw [Lib.byteCells_length]; have := HJ.out; omega) (by exact hsz)).mono ?_
            rintro e w3 ⟨rfl, hB3, hbel3⟩
            have HB3 : Hid (Lib.BuilderAt 38 5 w.heap.size w.heap.size (.pointer (some ⟨w.heap.size, 0, none⟩)) (Lib.byteCells (jt xs q) ++ [.int .u8 32]) w3) := hB3
            have HBE3 : Hid (Below w.heap.size w w3) := hbe.out.trans hbel3
            clear hB3 hbel3
            have hsz3 := HBE3.out.size
            go_wp2_with fail
            refine (Try.Builder_WriteString w.heap.size w.heap.size _ x _ (.inr (by exact HB3.out)) (by rw [List.length_append, Lib.byteCells_length]; have := HJ.out; simp; omega) (by exact hsz3)).mono ?_
            rintro e w4 ⟨rfl, hB4, hbel4⟩
            have HB4 : Hid (Lib.BuilderAt 38 5 w.heap.size w.heap.size (.pointer (some ⟨w.heap.size, 0, none⟩)) (Lib.byteCells (jt xs (q + 1))) w4) := by rw [HST.out] at hB4; exact hB4
            have HBE4 : Hid (Below w.heap.size w w4) := HBE3.out.trans hbel4
            clear hB4 hbel4
            go_wp2_with fail
            go_roundw
            case rel => exact ⟨q + 1, by omega, by go_num, HB4.out, HBE4.out⟩
            case measure => simp [intOf]; omega
          · obtain rfl : q = 0 := by omega
            have HST := (show Hid _ from bytes_first xs)
            generalize hx : xs.getD 0 ByteArray.empty = x at *
            clear hx
            have hcell0 : wr.cell? ⟨b, off, none⟩ = some (.string x) := hcell
            clear hcell
            go_wp2_with fail
            refine (Try.Builder_WriteString w.heap.size w.heap.size _ x _ (.inr (by exact hbu.out)) (by rw [Lib.byteCells_length]; have := HJ.out; omega) (by exact hsz)).mono ?_
            rintro e w4 ⟨rfl, hB4, hbel4⟩
            have HB4 : Hid (Lib.BuilderAt 38 5 w.heap.size w.heap.size (.pointer (some ⟨w.heap.size, 0, none⟩)) (Lib.byteCells (jt xs 1)) w4) := by rw [HST.out] at hB4; exact hB4
            have HBE4 : Hid (Below w.heap.size w w4) := hbe.out.trans hbel4
            clear hB4 hbel4
            go_wp2_with fail
            go_roundw
            case rel => exact ⟨1, by omega, by go_num, HB4.out, HBE4.out⟩
            case measure => simp [intOf]; omega
        · obtain rfl : q = k := by omega
          have hsz := hbe.out.size
          go_wp2_with fail
          refine (Try.Builder_String_any w.heap.size w.heap.size (jt xs q) _ (.inr (by exact hbu.out)) (by exact hsz)).mono ?_
          rintro e w5 ⟨rfl, hbel5⟩
          have HBE5 : Hid (Below w.heap.size w w5) := hbe.out.trans hbel5
          clear hbel5
          go_wp2_with fail
          go_ret
          exact ⟨rfl, HBE5.out⟩

end Go.Proofs.Qxb6603737a
