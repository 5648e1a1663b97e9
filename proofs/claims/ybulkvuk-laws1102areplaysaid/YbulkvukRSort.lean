import Derived.Test.YbulkvukRAdd
import Derived.Test.YbulkvukRLay
import Derived.Lib.RowBridge
namespace Go.Proofs.Ybulkvuk
open Go.RowKit Go.Sort
set_option linter.unusedVariables false

/-- Block blk from place off on holds the list, unfrozen. -/
structure RowAt {α : Type} (enc : α → Value) (w : World) (blk off : Nat) (zs : List α) : Prop where
  cell : ∀ (j : Nat) (x : α), zs[j]? = some x → w.cell? ⟨blk, off + j, none⟩ = some (enc x)
  fz : ∀ k, w.frozen? ⟨blk, k, none⟩ = false
  lt : blk < w.heap.size

theorem RowAt.holds {α : Type} [Inhabited α] {enc : α → Value} {w : World} {blk off : Nat} {zs : List α} (h : RowAt enc w blk off zs) : Holds enc w blk off zs.toArray := by
  intro j hj
  have hj' : j < zs.length := by simpa using hj
  refine ⟨?_, h.fz _⟩
  rw [h.cell j _ (List.getElem?_eq_getElem hj')]
  simp [hj']

theorem put_facts {α : Type} [Inhabited α] {enc : α → Value} {w : World} {blk off n : Nat} {zs ys : List α} (h : RowAt enc w blk off zs) (hl : ys.length = zs.length) (os : Array Obj) :
    RowAt enc (grow (putRow enc (Sort.ahead w n) blk off ys.toArray) os) blk off ys ∧ (∀ k, k < off ∨ off + zs.length ≤ k → (grow (putRow enc (Sort.ahead w n) blk off ys.toArray) os).cell? ⟨blk, k, none⟩ = w.cell? ⟨blk, k, none⟩) ∧ Tr [blk] w (grow (putRow enc (Sort.ahead w n) blk off ys.toArray) os) := by
  have hs : blk < (putRow enc (Sort.ahead w n) blk off ys.toArray).heap.size := by rw [size_putRow]; exact h.lt
  have hH : Holds enc (Sort.ahead w n) blk off zs.toArray := h.holds
  refine ⟨⟨fun j x hx => ?_, fun k => ?_, by rw [size_grow]; omega⟩, fun k hk => ?_, ⟨rfl, rfl, rfl, by rw [size_grow, size_putRow]; show w.heap.size ≤ w.heap.size + _; omega, fun k hk hx => ?_⟩⟩
  · have hj : j < ys.length := (List.getElem?_eq_some_iff.1 hx).1
    rw [cell?_grow _ _ _ (by exact hs), cell?_putRow enc _ blk off zs.toArray ys.toArray hH (by simpa using hl) j (by simpa using hj)]
    have := (List.getElem?_eq_some_iff.1 hx).2
    simp [hj, this]
  · rw [frozen?_grow _ _ _ (by exact hs), frozen?_putRow]; exact h.fz k
  · rw [cell?_grow _ _ _ (by exact hs), cell?_putRow_other enc _ blk off _ _ (by right; simpa [hl] using hk)]; rfl
  · rw [heap_grow_old _ _ (by rw [size_putRow]; exact hk)]
    have hne : blk ≠ k := fun e => hx (by simp [e])
    simp only [putRow, mapBlock, Array.getElem?_modify]
    rw [if_neg hne]; rfl

def srtL (zs : List Int) : List Int := zs.mergeSort fun x y => decide (x ≤ y)
theorem srtL_len (zs : List Int) : (srtL zs).length = zs.length := List.length_mergeSort _

/-- slices.Sort at []int. -/
theorem sortI (blk off cap : Nat) (zs : List Int) (w : World) (h : RowAt (Value.int .i64) w blk off zs) (hl : zs.length ≤ 1000) :
    Calls Yba.prog 48 #[.slice (some ⟨blk, off, none⟩) zs.length cap] w fun e w' => e = .returned (.tuple #[]) ∧ RowAt (Value.int .i64) w' blk off (srtL zs) ∧ (∀ k, k < off ∨ off + zs.length ≤ k → w'.cell? ⟨blk, k, none⟩ = w.cell? ⟨blk, k, none⟩) ∧ Tr [blk] w w' := by
  refine (Any.slices_Sort_int srtLays blk off cap zs w h.holds h.lt (by omega)).mono ?_
  rintro e w' ⟨rfl, n, os, rfl⟩
  exact ⟨rfl, put_facts h (srtL_len zs) os⟩

def srsL (zs : List (List UInt8)) : List (List UInt8) := zs.mergeSort fun x y => decide (x ≤ y)
theorem srsL_len (zs : List (List UInt8)) : (srsL zs).length = zs.length := List.length_mergeSort _

/-- slices.Sort at []string. -/
theorem sortS (blk off cap : Nat) (zs : List (List UInt8)) (w : World) (h : RowAt encStr w blk off zs) (hl : zs.length ≤ 1000) :
    Calls Yba.prog 45 #[.slice (some ⟨blk, off, none⟩) zs.length cap] w fun e w' => e = .returned (.tuple #[]) ∧ RowAt encStr w' blk off (srsL zs) ∧ (∀ k, k < off ∨ off + zs.length ≤ k → w'.cell? ⟨blk, k, none⟩ = w.cell? ⟨blk, k, none⟩) ∧ Tr [blk] w w' := by
  refine (Any.slices_Sort_string srsLays blk off cap zs w h.holds h.lt (by omega)).mono ?_
  rintro e w' ⟨rfl, n, os, rfl⟩
  exact ⟨rfl, put_facts h (srsL_len zs) os⟩

theorem RowAt.take {α : Type} {enc : α → Value} {w : World} {blk off : Nat} {zs ys : List α} (h : RowAt enc w blk off (zs ++ ys)) : RowAt enc w blk off zs :=
  ⟨fun j x hx => h.cell j x (by rw [List.getElem?_append_left (List.getElem?_eq_some_iff.1 hx).1]; exact hx), h.fz, h.lt⟩

theorem compact_pos {α : Type} [Inhabited α] [DecidableEq α] (zs : List α) (h : 0 < zs.length) : 0 < (Lib.compact zs).length := by
  unfold Lib.compact Lib.compactUpTo
  rw [List.length_map]
  refine List.length_pos_of_mem (a := 0) ?_
  rw [List.mem_filter]
  exact ⟨List.mem_range.2 h, by simp [Lib.keeps]⟩

/-- slices.Compact at []int. -/
theorem compactI (blk off cap : Nat) (zs : List Int) (w : World) (h : RowAt (Value.int .i64) w blk off zs) (hl : zs.length ≤ 1000) (hcap : zs.length ≤ cap) :
    Calls Yba.prog 49 #[.slice (some ⟨blk, off, none⟩) zs.length cap] w fun e w' => e = .returned (.slice (some ⟨blk, off, none⟩) (Lib.compact zs).length cap) ∧ RowAt (Value.int .i64) w' blk off (Lib.compact zs) ∧ Tr [blk] w w' := by
  refine (Any.slices_Compact_int cpiLays blk off cap zs w h.holds (by omega) hcap).mono ?_
  rintro e w' ⟨rfl, n, rfl⟩
  have hc := Lib.compact_length_le zs
  have := put_facts (n := n) (ys := Lib.compact zs ++ List.replicate (zs.length - (Lib.compact zs).length) 0) h (by simp; omega) #[]
  rw [grow_empty] at this
  exact ⟨rfl, this.1.take, this.2.2⟩

/-- slices.Compact at []string. -/
theorem compactS (blk off cap : Nat) (zs : List (List UInt8)) (w : World) (h : RowAt encStr w blk off zs) (hl : zs.length ≤ 1000) (hcap : zs.length ≤ cap) :
    Calls Yba.prog 46 #[.slice (some ⟨blk, off, none⟩) zs.length cap] w fun e w' => e = .returned (.slice (some ⟨blk, off, none⟩) (Lib.compact zs).length cap) ∧ RowAt encStr w' blk off (Lib.compact zs) ∧ Tr [blk] w w' := by
  refine (Any.slices_Compact_string cpsLays blk off cap zs w h.holds (by omega) hcap).mono ?_
  rintro e w' ⟨rfl, n, rfl⟩
  have hc := Lib.compact_length_le zs
  have := put_facts (n := n) (ys := Lib.compact zs ++ List.replicate (zs.length - (Lib.compact zs).length) []) h (by simp; omega) #[]
  rw [grow_empty] at this
  exact ⟨rfl, this.1.take, this.2.2⟩
end Go.Proofs.Ybulkvuk
