import Derived.Test.YbulkwbkRows
import Derived.WalkKit
import Derived.WalkLawsBesides
import Derived.WalkSpells
import Derived.Deep.OwnRows
import Derived.Deep.RegionHeld3
namespace Go.Proofs.Ybulkwbk
open Go.RowKit
set_option linter.unusedVariables false

theorem info25 : (Yba.prog.info? 25).map (fun i => (i.zero, i.size, i.bytes)) = some (some (.pointer none), 1, 8) := by kernel_rfl

/-- The pointer to a block's head. -/
abbrev pt (b : Nat) : Value := .pointer (some ⟨b, 0, none⟩)

theorem mk23 (n : Nat) (hn : n ≤ 1024) (W : World) : (Instr.makeSlice 23 (.int .i64 (n : Int)) (.int .i64 (n : Int))).run Yba.prog W = .ok (.slice (some ⟨W.heap.size, 0, none⟩) n n) (W.alloc (.cells (madeCells #[.pointer none] n) 25)) :=
  run_make_row' 23 25 (.pointer none) 8 Yba.underlying23 info25 rfl .i64 .i64 n (by omega) (by omega) W

def upd (f : Nat → Nat) (k v : Nat) : Nat → Nat := fun i => if i = k then v else f i
theorem upd_same (f : Nat → Nat) (k v : Nat) : upd f k v k = v := if_pos rfl
theorem upd_other (f : Nat → Nat) (k v i : Nat) (h : i ≠ k) : upd f k v i = f i := if_neg h

theorem lt_of_heap {w : World} {b : Nat} {o : Obj} (h : w.heap[b]? = some o) : b < w.heap.size := (Array.getElem?_eq_some_iff.1 h).1

/-- A row of n pointers in block rb, the first k of them laid: pointer i leads to block ob i, whose cell 12 (Rekeys) holds f i. -/
structure Kids (wr : World) (rb n k : Nat) (ob : Nat → Nat) (f : Nat → Int) : Prop where
  row : wr.rowIs rb 25 n (fun i => if i < k then pt (ob i) else .pointer none)
  kid : ∀ i, i < k → wr.cell? ⟨ob i, 12, none⟩ = some (.int .i64 (f i))
  ne : ∀ i, i < k → ob i ≠ rb

theorem kids_zero (w : World) (n : Nat) (f : Nat → Int) : Kids (w.alloc (.cells (madeCells #[.pointer none] n) 25)) w.heap.size n 0 (fun _ => 0) f :=
  ⟨(World.rowIs_made w (.pointer none) n 25).congr fun i _ => by simp, fun i h => by omega, fun i h => by omega⟩

theorem kids_step {wr : World} {rb n k : Nat} {ob : Nat → Nat} {f : Nat → Int} (h : Kids wr rb n k ob f) (hk : k < n) (c : Array Value) (t : TypeId) (hc : c[12]? = some (.int .i64 (f k))) :
    Kids ((wr.setCell ⟨rb, k, none⟩ (pt wr.heap.size)).alloc (.cells c t)) rb n (k + 1) (upd ob k wr.heap.size) f := by
  have lr := h.row.lt
  refine ⟨((h.row.set k (pt wr.heap.size)).alloc _).congr fun i hi => ?_, fun i hi => ?_, fun i hi => ?_⟩
  · by_cases e : i = k
    · subst e; rw [if_pos rfl, if_pos (by omega), upd_same]
    · rw [if_neg e, upd_other _ _ _ _ e]
      by_cases e2 : i < k
      · rw [if_pos e2, if_pos (by omega)]
      · rw [if_neg e2, if_neg (by omega)]
  · by_cases e : i = k
    · subst e
      rw [upd_same, World.cell?_alloc_at _ _ _ _ (by simp [World.setCell])]; exact hc
    · have hl := World.block_lt_of_cell? wr _ (h.kid i (by omega))
      rw [upd_other _ _ _ _ e, World.cell?_alloc_past _ _ _ (by simpa [World.setCell] using hl), World.cell?_setCell_far _ _ _ _ (Ne.symm (h.ne i (by omega)))]
      exact h.kid i (by omega)
  · by_cases e : i = k
    · subst e; rw [upd_same]; omega
    · rw [upd_other _ _ _ _ e]; exact h.ne i (by omega)

set_option maxHeartbeats 1000000 in
set_option maxRecDepth 100000 in
/-- zzs1115abuild. -/
theorem build_any (n : Nat) (hn : n ≤ 1024) (w : World) : Calls Yba.prog 5 #[.int .i64 n] w fun e w' =>
    e = .returned (.slice (some ⟨w.heap.size, 0, none⟩) n n) ∧ Below w.heap.size w w' ∧ ∃ ob, Kids w' w.heap.size n n ob (fun i => i) := by
  have hmk := mk23 n hn
  go_enter Yba.func5, Yba.ntmps5
  go_wp2
  go_loopw [4] (fun c wr => ∃ k : Nat, k ≤ n ∧ c = .int .i64 k ∧ Below w.heap.size w wr ∧ ∃ ob, Kids wr w.heap.size n k ob (fun i => i)) (fun c _ => n - (intOf c).toNat)
  case atStart => exact ⟨0, Nat.zero_le _, rfl, (Below.refl _ _).alloc (Nat.le_refl _) _, _, kids_zero w n _⟩
  case round =>
    clear hmk
    obtain ⟨k, hk, rfl, hb, ob, hK⟩ := hrel
    by_cases hkn : k < n
    · have b1 : (k : Int) < (n : Int) := by omega
      obtain ⟨x, c0⟩ : ∃ x, wr.cell? ⟨w.heap.size, k, none⟩ = some x := ⟨_, hK.row.cell hkn⟩
      have f0 := hK.row.frozen k
      have l0 := hK.row.lt
      have hs := hb.size
      go_wp2
      go_roundw
      case rel => exact ⟨k + 1, by omega, by go_num, (hb.setCell (by exact Nat.le_refl _) _).alloc (by simp [World.setCell]; omega) _, _, kids_step hK hkn _ _ rfl⟩
      case measure => simp [intOf]; omega
    · obtain rfl : k = n := by omega
      go_wp2
      go_ret
      exact ⟨rfl, hb, ob, hK⟩
end Go.Proofs.Ybulkwbk
