/-
  Normalize's closure 'set'.
-/
import Derived.Test.Qxb6603176aMaps
import Derived.OneCell
import Derived.Lib.SliceRun
namespace Go.Proofs.Qxb6603176a
open Go.RowKit
set_option linter.unusedVariables false

/-- Normalize's own memory: block B: the tag; block B + 1: the variable b, nil (then 'buf' is the tag itself) or a row of bytes of the call's own, 'buf'. -/
def VB (s : ByteArray) (B : Nat) (w : World) (buf : List UInt8) : Prop :=
  w.heap[B]? = some (.cells #[.string s] 9 (0, 0)) ∧ buf.length = s.size ∧
  ((w.heap[B + 1]? = some (.cells #[.slice none 0 0] 34 (0, 0)) ∧ buf = s.data.toList) ∨
   ∃ (g cap n : Nat) (row : Array Value), w.heap[B + 1]? = some (.cells #[.slice (some ⟨g, 0, none⟩) s.size cap] 34 (0, 0)) ∧ B + 2 ≤ g ∧ w.heap[g]? = some (.cells row 5 (n, n + 1)) ∧ s.size ≤ n ∧
     ∀ k, k < s.size → row[k]? = some (.int .u8 ((buf.getD k 0).toNat : Int)))

set_option maxHeartbeats 400000 in
theorem set_old (s : ByteArray) (B i g cap : Nat) (c : UInt8) (w : World) (buf : List UInt8) (hi : i < s.size) (hs : s.size ≤ 1048576)
    (hb : w.heap[B + 1]? = some (.cells #[.slice (some ⟨g, 0, none⟩) s.size cap] 34 (0, 0))) (v : Value) (hc : w.cell? ⟨g, i, none⟩ = some v) (hf : w.frozen? ⟨g, i, none⟩ = false) :
    Calls Try.prog 34 #[.int .i64 i, .int .u8 (c.toNat : Int), .pointer (some ⟨B + 1, 0, none⟩), .pointer (some ⟨B, 0, none⟩)] w fun e w' => e = .returned (.tuple #[]) ∧ w' = w.setCell ⟨g, i, none⟩ (.int .u8 (c.toNat : Int)) := by
  have hcb := cell_of_one hb
  clear hb
  have hq := fun (W : World) (a : Option Addr) (n c : Nat) => Lib.run_eql_slice_nil (P := Try.prog) W 34 5 a n c 0 0 Try.underlying34
  go_enter Try.func34, Try.ntmps34
  go_wp2
  go_end0
  exact ⟨rfl, rfl⟩

theorem new_block (w : World) (a : Addr) (v : Value) (row : Array Value) (m : Nat × Nat) : ((w.setCell a v).alloc (.cells row 5 m)).heap[w.heap.size]? = some (.cells row 5 m) := by
  have h := heap_alloc_new (w.setCell a v) (.cells row 5 m)
  rwa [show (w.setCell a v).heap.size = w.heap.size by simp [World.setCell]] at h
theorem cell_marked {w : World} {g : Nat} {row : Array Value} {m : Nat × Nat} (h : w.heap[g]? = some (.cells row 5 m)) (i : Nat) : w.cell? ⟨g, i, none⟩ = row[i]? := by
  simp [World.cell?, h]
theorem frozen_marked {w : World} {g : Nat} {row : Array Value} {n : Nat} (h : w.heap[g]? = some (.cells row 5 (n, n + 1))) (i : Nat) (hi : i < n) : w.frozen? ⟨g, i, none⟩ = false := by
  simp [World.frozen?, h]; omega
theorem bytesRow_at (s : ByteArray) (cap i : Nat) (hi : i < s.size) : (bytesRow s cap)[i]? = some (.int .u8 ((s.data.toList.getD i 0).toNat : Int)) := by
  have hi' : i < s.data.size := hi
  unfold bytesRow
  rw [Array.getElem?_append_left (by simpa using hi'), Array.getElem?_map, Array.getElem?_eq_getElem hi']
  simp [List.getD_eq_getElem?_getD, Array.getElem?_eq_getElem hi']
theorem bytesRow_size (s : ByteArray) (cap : Nat) (h : s.size ≤ cap) : (bytesRow s cap).size = cap := by
  have : s.data.size = s.size := rfl
  unfold bytesRow; simp; omega

set_option maxHeartbeats 400000 in
theorem set_new (s : ByteArray) (B i : Nat) (c : UInt8) (w : World) (hi : i < s.size) (hs : s.size ≤ 1048576)
    (ht : w.heap[B]? = some (.cells #[.string s] 9 (0, 0))) (hb : w.heap[B + 1]? = some (.cells #[.slice none 0 0] 34 (0, 0))) :
    Calls Try.prog 34 #[.int .i64 i, .int .u8 (c.toNat : Int), .pointer (some ⟨B + 1, 0, none⟩), .pointer (some ⟨B, 0, none⟩)] w fun e w' => e = .returned (.tuple #[]) ∧
      ∃ (cap : Nat) (row : Array Value), s.size ≤ cap ∧ row.size = cap ∧ (∀ k, k < s.size → row[k]? = some (.int .u8 ((s.data.toList.getD k 0).toNat : Int))) ∧
        w' = (((w.setCell ⟨B + 1, 0, none⟩ (.slice (some ⟨w.heap.size, 0, none⟩) s.size cap)).alloc (.cells row 5 (row.size, row.size + 1))).setCell ⟨w.heap.size, i, none⟩ (.int .u8 (c.toNat : Int))).drew := by
  have hcb := cell_of_one hb
  have hfb := free_of_one hb
  have hct := cell_of_one ht
  have kc := run_bytes_of_string (P := Try.prog) w 9 34 5 s Try.underlying9 Try.underlying34 Try.underlying5
  have hge := grownCap_ge w s.size 0 5
  generalize grownCap w s.size 0 5 = cap at *
  have hlt := lt_of_block hb
  have hq := fun (W : World) (a : Option Addr) (n c : Nat) => Lib.run_eql_slice_nil (P := Try.prog) W 34 5 a n c 0 0 Try.underlying34
  have HR1 : Hid (∀ k, k < s.size → (bytesRow s cap)[k]? = some (.int .u8 ((s.data.toList.getD k 0).toNat : Int))) := fun k hk => bytesRow_at s cap k hk
  have HR2 : Hid ((bytesRow s cap).size = cap) := bytesRow_size s cap hge
  generalize bytesRow s cap = row at *
  have hN := new_block w ⟨B + 1, 0, none⟩ (.slice (some ⟨w.heap.size, 0, none⟩) s.size cap) row (row.size, row.size + 1)
  have hc1 := cell_marked hN i
  rw [HR1.out i hi] at hc1
  have hf1 := frozen_marked hN i (by rw [HR2.out]; omega)
  clear hb ht hN
  go_enter Try.func34, Try.ntmps34
  go_wp2
  go_end0
  exact ⟨rfl, cap, row, hge, HR2.out, HR1.out, rfl⟩

theorem marked_set {w : World} {g : Nat} {row : Array Value} {m : Nat × Nat} (h : w.heap[g]? = some (.cells row 5 m)) (i : Nat) (v : Value) : (w.setCell ⟨g, i, none⟩ v).heap[g]? = some (.cells (row.setIfInBounds i v) 5 m) := by
  rw [setCell_eq_setRow w g i row 5 m v h]
  exact setRow_heap w g row _ 5 _ h
theorem row_set {row : Array Value} {buf : List UInt8} {n i : Nat} {c : UInt8} (hl : buf.length = n) (hi : i < n)
    (h : ∀ k, k < n → row[k]? = some (.int .u8 ((buf.getD k 0).toNat : Int))) : ∀ k, k < n → (row.setIfInBounds i (.int .u8 (c.toNat : Int)))[k]? = some (.int .u8 (((buf.set i c).getD k 0).toNat : Int)) := by
  intro k hk
  have hs : i < row.size := by
    have := h i hi
    rcases Nat.lt_or_ge i row.size with h' | h'
    · exact h'
    · rw [Array.getElem?_eq_none h'] at this; cases this
  rw [Array.getElem?_setIfInBounds]
  by_cases e : i = k
  · subst e
    rw [if_pos rfl, if_pos hs, List.getD_eq_getElem?_getD, List.getElem?_set_self (by omega)]; rfl
  · rw [if_neg e, h k hk, List.getD_eq_getElem?_getD, List.getD_eq_getElem?_getD, List.getElem?_set_ne e]

theorem set_any (s : ByteArray) (B i : Nat) (c : UInt8) (w : World) (buf : List UInt8) (hi : i < s.size) (hs : s.size ≤ 1048576) (h : VB s B w buf) :
    Calls Try.prog 34 #[.int .i64 i, .int .u8 (c.toNat : Int), .pointer (some ⟨B + 1, 0, none⟩), .pointer (some ⟨B, 0, none⟩)] w fun e w' => e = .returned (.tuple #[]) ∧ VB s B w' (buf.set i c) ∧ Below B w w' := by
  obtain ⟨ht, hl, h⟩ := h
  rcases h with ⟨hb, rfl⟩ | ⟨g, cap, n, row, hb, hg, hrow, hn, hcells⟩
  · refine (set_new s B i c w hi hs ht hb).mono ?_
    rintro e w' ⟨rfl, cap, row, hcap, hsz, hr, rfl⟩
    have hlt := lt_of_block hb
    refine ⟨rfl, ⟨?_, by simp [List.length_set], .inr ⟨w.heap.size, cap, row.size, row.setIfInBounds i (.int .u8 (c.toNat : Int)), ?_, by omega, ?_, by omega, row_set hl hi hr⟩⟩, ?_⟩
    · show ((World.setCell _ _ _).heap)[B]? = _
      rw [heap_setCell_other _ _ _ _ (by simp; omega), Below.heap_alloc _ _ _ (by simp [World.setCell]; omega), heap_setCell_other _ _ _ _ (by simp), ht]
    · show ((World.setCell _ _ _).heap)[B + 1]? = _
      rw [heap_setCell_other _ _ _ _ (by simp; omega), Below.heap_alloc _ _ _ (by simp [World.setCell]; omega), one_setCell hb]
    · show ((World.setCell _ _ _).heap)[w.heap.size]? = _
      exact marked_set (new_block w _ _ row _) i _
    · exact ((((Below.refl B w).setCell (p := ⟨B + 1, 0, none⟩) (by simp) _).alloc (by simp [World.setCell]; omega) _).setCell (p := ⟨w.heap.size, i, none⟩) (by simp; omega) _).drew
  · have hlt := lt_of_block hrow
    refine (set_old s B i g cap c w buf hi hs hb _ ((cell_marked hrow i).trans (hcells i hi)) (frozen_marked hrow i (by omega))).mono ?_
    rintro e w' ⟨rfl, rfl⟩
    refine ⟨rfl, ⟨?_, by simpa using hl, .inr ⟨g, cap, n, row.setIfInBounds i (.int .u8 (c.toNat : Int)), ?_, hg, marked_set hrow i _, hn, row_set hl hi hcells⟩⟩, ?_⟩
    · rw [heap_setCell_other _ _ _ _ (by simp; omega), ht]
    · rw [heap_setCell_other _ _ _ _ (by simp; omega), hb]
    · exact (Below.refl B w).setCell (p := ⟨g, i, none⟩) (by simp; omega) _

end Go.Proofs.Qxb6603176a
