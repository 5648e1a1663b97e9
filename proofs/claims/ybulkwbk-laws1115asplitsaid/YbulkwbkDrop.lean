import Derived.Test.YbulkwbkDel2
namespace Go.Proofs.Ybulkwbk
open Go.RowKit
set_option linter.unusedVariables false

/-- 'Env' ahead of drop, whose boxes are not there yet. -/
structure Pre (w : World) (B csb sab mb : Nat) (ma : Option Addr) (n mc : Nat) (Mk : Nat → Bool) (ob : Nat → Nat) : Prop where
  mbox : w.cell? ⟨mb, 0, none⟩ = some (.slice ma n mc)
  mask : ∀ i, i < n → ∃ mab moff, ma = some ⟨mab, moff, none⟩ ∧ mab < B ∧ mab ≠ csb ∧ w.cell? ⟨mab, moff + i, none⟩ = some (.bool (Mk i))
  kid : ∀ i, i < n → ob i < B ∧ ob i ≠ csb ∧ w.cell? ⟨ob i, 12, none⟩ = some (.int .i64 i)
  low : mb < B ∧ mb ≠ csb ∧ B ≤ sab ∧ csb < B
  row : w.rowIs csb 25 n (fun i => pt (ob i))

theorem DSt.alloc {w : World} {B sab : Nat} {cur : Array Value} {vd : Value} {D : List Nat} (h : DSt w B sab cur vd D) (o : Obj) : DSt (w.alloc o) B sab cur vd D :=
  ⟨(Below.heap_alloc _ _ _ (lt_of_heap h.blk)).trans h.blk, h.size, h.own.alloc _, by have := h.hB; simp; omega⟩

set_option maxRecDepth 100000 in
set_option maxHeartbeats 2000000 in
/-- (*SA).drop. -/
theorem drop6 (B csb sab hob mb : Nat) (ma : Option Addr) (n mc : Nat) (Mk : Nat → Bool) (ob : Nat → Nat) (cur ch : Array Value) (vd : Value) (D : List Nat) (hn : n ≤ 1024) (hD : D.length ≤ 900) (w : World)
    (hE : Pre w B csb sab mb ma n mc Mk ob) (hS : DSt w B sab cur vd D) (hH : w.heap[hob]? = some (.cells ch 87 (0, 0))) (hHs : ch.size = 80) (hHc : ch[78]? = some (.slice (some ⟨csb, 0, none⟩) n n)) :
    Calls Yba.prog 6 #[pt sab, pt hob, .func (.func 7) #[] #[.pointer (some ⟨mb, 0, none⟩)]] w fun e w' =>
      e = .returned (.tuple #[]) ∧ ∃ w1, w' = w1.setCell ⟨hob, 78, none⟩ (.slice (some ⟨csb, 0, none⟩) (kep Mk ob n).length n) ∧
        (∀ u x, (kep Mk ob n)[u]? = some x → w1.cell? ⟨csb, u, none⟩ = some (pt x)) ∧ (∃ vd', DSt w1 B sab cur vd' (D ++ del Mk ob n)) ∧ Fr B (fun k => k = sab ∨ k = csb) w w1 := by
  obtain ⟨hmb, hmc, hsab, hcs⟩ := hE.low
  have hB := hS.hB
  have ls := lt_of_heap hS.blk
  have lh := lt_of_heap hH
  have hc78 : w.cell? ⟨hob, 78, none⟩ = some (.slice (some ⟨csb, 0, none⟩) n n) := by simp [World.cell?, hH, hHc]
  have hhc : hob ≠ csb := fun e => by
    obtain ⟨c, h1, _, _⟩ := hE.row
    rw [e, h1] at hH; simp at hH
  obtain ⟨W, hW⟩ : ∃ W, W = (w.alloc (.cells #[pt sab] 44)).alloc (.cells #[.func (.func 7) #[] #[.pointer (some ⟨mb, 0, none⟩)]] 89) := ⟨_, rfl⟩
  have hfW : Fr B (fun k => k = sab ∨ k = csb) w W := by rw [hW]; exact ((Fr.refl B _ w).alloc hB _).alloc (by simp; omega) _
  have hSW : DSt W B sab cur vd D := by rw [hW]; exact (hS.alloc _).alloc _
  have nx : ∀ b, b < B → b ≠ csb → ¬ (b = sab ∨ b = csb) := fun b hb hc e => by rcases e with e | e; omega; exact hc e
  have hrW : W.rowIs csb 25 n (fun i => pt (ob i)) := by rw [hW]; exact (hE.row.alloc _).alloc _
  have hEW : Env W B csb sab (w.heap.size + 1) w.heap.size mb ma n mc Mk ob := by
    refine ⟨?_, ?_, ?_, ?_, ?_, hmb, hmc, by omega, by omega, hsab, hcs, by omega, by omega⟩
    · rw [hW]; have := heap_alloc_new (w.alloc (.cells #[pt sab] 44)) (.cells #[.func (.func 7) #[] #[.pointer (some ⟨mb, 0, none⟩)]] 89); simpa using this
    · rw [hW, Below.heap_alloc _ _ _ (by simp)]; exact heap_alloc_new w _
    · rw [hfW.cellLow hmb (nx mb hmb hmc)]; exact hE.mbox
    · intro i hi
      obtain ⟨mab, moff, e, hb, hc, hh⟩ := hE.mask i hi
      exact ⟨mab, moff, e, hb, hc, by rw [hfW.cellLow hb (nx mab hb hc)]; exact hh⟩
    · intro i hi
      obtain ⟨hb, hc, hh⟩ := hE.kid i hi
      exact ⟨hb, hc, by rw [hfW.cellLow hb (nx _ hb hc)]; exact hh⟩
  have hcall := del10 B csb sab (w.heap.size + 1) w.heap.size mb ma n mc Mk ob cur vd D hn hD W hEW hSW hrW
  have hst : ∀ w1 : World, Fr B (fun k => k = sab ∨ k = csb) w w1 → (∃ vd', DSt w1 B sab cur vd' (D ++ del Mk ob n)) → (∃ x, w1.cell? ⟨hob, 78, none⟩ = some x) ∧ w1.frozen? ⟨hob, 78, none⟩ = false := by
    intro w1 hf ⟨vd', hd⟩
    by_cases e : hob = sab
    · subst e
      refine ⟨⟨(cur.setIfInBounds 79 vd')[78]'(by simp [hd.size]), ?_⟩, frozen_of_row w1 hob 78 _ _ hd.blk⟩
      rw [cell_of_row w1 hob 78 _ _ _ hd.blk, Array.getElem?_eq_getElem]
    · have hb1 : w1.heap[hob]? = some (.cells ch 87 (0, 0)) := (hf.typ hob _ _ _ hH (by decide) (fun h => by rcases h with h | h; exact e h; exact hhc h)).trans hH
      refine ⟨⟨.slice (some ⟨csb, 0, none⟩) n n, ?_⟩, frozen_of_row w1 hob 78 _ _ hb1⟩
      · rw [cell_of_row w1 hob 78 _ _ _ hb1]; exact hHc
  subst hW
  have HST : Hid _ := hst
  clear hst hEW hSW hrW
  have hfW' : Hid (Fr B (fun k => k = sab ∨ k = csb) w ((w.alloc (.cells #[pt sab] 44)).alloc (.cells #[.func (.func 7) #[] #[.pointer (some ⟨mb, 0, none⟩)]] 89))) := hfW
  clear hfW hE hS hH
  go_enter Yba.func6, Yba.ntmps6
  go_wp2_with fail
  refine hcall.mono ?_
  rintro e w1 ⟨rfl, hcell, hd, hf⟩
  have hfn := hfW'.out.trans hf
  obtain ⟨⟨x, hx⟩, hz⟩ := HST.out w1 hfn hd
  have HC : Hid (∀ u x, (kep Mk ob n)[u]? = some x → w1.cell? ⟨csb, u, none⟩ = some (pt x)) := hcell
  clear hcell hcall HST
  go_wp2
  go_end0
  exact ⟨rfl, w1, rfl, HC.out, hd, hfn⟩
end Go.Proofs.Ybulkwbk
