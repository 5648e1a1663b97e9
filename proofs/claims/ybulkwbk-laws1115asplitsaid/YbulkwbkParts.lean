import Derived.Test.YbulkwbkDrop
namespace Go.Proofs.Ybulkwbk
open Go.RowKit
set_option linter.unusedVariables false

theorem kids_row {wr : World} {rb n : Nat} {ob : Nat → Nat} {f : Nat → Int} (h : Kids wr rb n n ob f) : wr.rowIs rb 25 n (fun i => pt (ob i)) :=
  h.row.congr fun i hi => by rw [if_pos hi]

theorem rowIs_setCells {b : Nat} {t : TypeId} {n : Nat} : ∀ (vs : List Value) (o : Nat) (w : World) (f g : Nat → Value), w.rowIs b t n f → (∀ j, j < n → g j = if o ≤ j ∧ j < o + vs.length then vs[j - o]?.getD default else f j) → (w.setCells b o vs).rowIs b t n g
  | [], o, w, f, g, h, hg => h.congr fun j hj => by rw [hg j hj, if_neg (by simp)]
  | v :: r, o, w, f, g, h, hg => by
    rw [World.setCells]
    refine rowIs_setCells r (o + 1) _ _ g (h.set o v) fun j hj => ?_
    rw [hg j hj]
    simp only [List.length_cons]
    by_cases c1 : o + 1 ≤ j ∧ j < o + 1 + r.length
    · rw [if_pos c1, if_pos (by omega), show j - o = (j - (o + 1)) + 1 by omega, List.getElem?_cons_succ]
    · rw [if_neg c1]
      by_cases c2 : j = o
      · subst c2; rw [if_pos (by omega), if_pos rfl]; simp
      · rw [if_neg (by omega), if_neg c2]

theorem heap_setCells_far (g k : Nat) (hk : k ≠ g) : ∀ (vs : List Value) (o : Nat) (w : World), (w.setCells g o vs).heap[k]? = w.heap[k]?
  | [], _, _ => rfl
  | v :: r, o, w => by rw [World.setCells, heap_setCells_far g k hk r]; exact Below.heap_setCell _ _ _ _ hk
theorem size_setCells (g : Nat) : ∀ (vs : List Value) (o : Nat) (w : World), (w.setCells g o vs).heap.size = w.heap.size
  | [], _, _ => rfl
  | v :: r, o, w => by rw [World.setCells, size_setCells g r]; simp [World.setCell]
theorem below_setCells {B g : Nat} {a : World} (hg : B ≤ g) : ∀ (vs : List Value) (o : Nat) (w : World), Below B a w → Below B a (w.setCells g o vs)
  | [], _, _, h => h
  | v :: r, o, w, h => by rw [World.setCells]; exact below_setCells hg r (o + 1) _ (h.setCell hg v)

/-- The children and two rows of pointers to them, orig's (rb) and cs's (csb). -/
structure Two (wB : World) (rb csb n : Nat) (ob : Nat → Nat) : Prop where
  orig : wB.rowIs rb 25 n (fun i => pt (ob i))
  cs : wB.rowIs csb 25 n (fun i => pt (ob i))
  kid : ∀ i, i < n → wB.cell? ⟨ob i, 12, none⟩ = some (.int .i64 i)
  ne : ∀ i, i < n → ob i ≠ csb
  nr : rb ≠ csb

/-- 'cs := make(n); copy(cs, orig)': its run. -/
theorem copy_run {wA : World} {rb n : Nat} {ob : Nat → Nat} (hK : Kids wA rb n n ob (fun i => i)) :
    ∃ wB, (Builtin.copy_ #[23, 23] 3 #[.slice (some ⟨wA.heap.size, 0, none⟩) n n, .slice (some ⟨rb, 0, none⟩) n n]).run Yba.prog (wA.alloc (.cells (madeCells #[.pointer none] n) 25)) = .ok (goInt n) wB ∧
      Two wB rb wA.heap.size n ob ∧ wB.heap.size = wA.heap.size + 1 ∧ Below wA.heap.size wA wB := by
  have hr := kids_row hK
  have hm : (wA.alloc (.cells (madeCells #[.pointer none] n) 25)).rowIs wA.heap.size 25 n (fun _ => .pointer none) := World.rowIs_made wA (.pointer none) n 25
  have hrun := run_copy_cells (P := Yba.prog) (wA.alloc (.cells (madeCells #[.pointer none] n) 25)) 23 23 3 25 wA.heap.size 0 n n ⟨rb, 0, none⟩ n n ((List.range n).map fun i => pt (ob i)) Yba.underlying23 (by kernel_rfl) (by simp)
    (fun j v hj => by
      have hj' : j < n := by have := (List.getElem?_eq_some_iff.1 hj).1; simpa using this
      simp [hj'] at hj
      subst hj
      rw [Addr.add_lit, Nat.zero_add, World.cell?_alloc_past _ _ _ hr.lt]
      exact hr.cell hj')
    (fun j hj => by rw [Nat.zero_add, hm.cell (by simpa using hj)]; rfl) (fun j hj => hm.frozen _)
    (fun v hv => by obtain ⟨i, _, rfl⟩ := List.mem_map.1 hv; rfl)
  rw [List.length_map, List.length_range] at hrun
  have lr := hr.lt
  refine ⟨_, hrun, ⟨?_, ?_, ?_, ?_, by omega⟩, by rw [size_setCells]; simp, below_setCells (Nat.le_refl _) _ _ _ ((Below.refl _ _).alloc (Nat.le_refl _) _)⟩
  · exact (hr.alloc _).of_block (heap_setCells_far _ _ (by omega) _ _ _)
  · refine rowIs_setCells _ 0 _ _ _ hm fun j hj => ?_
    rw [if_pos (by simp; omega)]
    simp [hj]
  · intro i hi
    have hl := World.block_lt_of_cell? wA _ (hK.kid i hi)
    rw [World.cell?_setCells_out _ _ _ _ _ (fun e _ => by simp only at e hl; omega), World.cell?_alloc_past _ _ _ hl]
    exact hK.kid i hi
  · intro i hi
    have hl := World.block_lt_of_cell? wA _ (hK.kid i hi)
    simp only at hl; omega

/-- The cells of an SA: all zero but children (78) and deleted (79). -/
def saC (a b : Value) : Array Value := #[.pointer none, .int .u16 0, .int .i64 0, .int .u16 0, .int .u16 0, .int .u16 0, .nilIface, .nilFunc, .int .i64 0, .int .i64 0, .int .u64 0, .int .u64 0, .int .u64 0, .int .u64 0, .pointer none, .int .u16 0, .int .u64 0, .int .u64 0, .pointer none, .int .u16 0, .bool false, .pointer none, .int .u8 0, .int .u32 0, .int .i64 0, .int .u32 0, .nilIface, .slice none 0 0, .int .u64 0, .int .i64 0, .pointer none, .int .i64 0, .int .u64 0, .int .i64 0, .pointer none, .slice none 0 0, .pointer none, .bool false, .int .u16 0, .int .u16 0, .int .u16 0, .bool false, .int .i64 0, .int .u64 0, .int .i64 0, .pointer none, .int .i64 0, .int .u64 0, .int .i64 0, .pointer none, .int .u64 0, .int .i64 0, .pointer none, .bool false, .int .u32 0, .slice none 0 0, .bool false, .nilIface, .int .i64 0, .bool false, .pointer none, .slice none 0 0, .slice none 0 0, .slice none 0 0, .slice none 0 0, .int .i64 0, .nilFunc, .slice none 0 0, .slice none 0 0, .slice none 0 0, .slice none 0 0, .slice none 0 0, .slice none 0 0, .slice none 0 0, .pointer none, .pointer none, .pointer none, .int .u32 0, a, b]

theorem saC_size (a b : Value) : (saC a b).size = 80 := rfl
theorem saC_78 (a b : Value) : (saC a b)[78]? = some a := rfl
theorem saC_79 (a b : Value) : (saC a b)[79]? = some b := rfl
theorem saC_set78 (a b v : Value) : (saC a b).setIfInBounds 78 v = saC v b := rfl
theorem saC_set79 (a b v : Value) : (saC a b).setIfInBounds 79 v = saC a v := rfl

theorem build1 (ao : Option Addr) (c d : Nat) (w : World) : (Instr.build 87 #[(46, .slice ao c d)]).run Yba.prog w = .ok (.agg (saC (.slice none 0 0) (.slice ao c d))) w := by kernel_rfl
theorem build0 (w : World) : (Instr.build 87 #[]).run Yba.prog w = .ok (.agg (saC (.slice none 0 0) (.slice none 0 0))) w := by kernel_rfl

theorem wpList_build1 {P : Program} {w : World} {ops : Array Oper} {rest : List Oper} {o : Oper} {a : Act} {Q : Exit → Act → World → Prop} (hgd : o.guard = none) (t : TypeId) (i : Nat) (x : Operand)
    (ho : o.op = .build t #[(i, x)]) (v u : Value) (hx : a.eval x = v) (hr : (Instr.build t #[(i, v)]).run P w = .ok u w) (h : wpList P ops Q rest (a.put o.dst u) w) : wpList P ops Q (o :: rest) a w := by
  refine wpList_plain hgd fun K hK => ?_
  unfold Oper.wp
  simp [execOp, ho, hx, hr, Result.andThen]
  exact hK _ _ h
theorem wpList_build0 {P : Program} {w : World} {ops : Array Oper} {rest : List Oper} {o : Oper} {a : Act} {Q : Exit → Act → World → Prop} (hgd : o.guard = none) (t : TypeId)
    (ho : o.op = .build t #[]) (u : Value) (hr : (Instr.build t #[]).run P w = .ok u w) (h : wpList P ops Q rest (a.put o.dst u) w) : wpList P ops Q (o :: rest) a w := by
  refine wpList_plain hgd fun K hK => ?_
  unfold Oper.wp
  simp [execOp, ho, hr, Result.andThen]
  exact hK _ _ h
end Go.Proofs.Ybulkwbk
