import Derived.Test.YbulkwbkParts
namespace Go.Proofs.Ybulkwbk
open Go.RowKit
set_option linter.unusedVariables false

theorem Pre.alloc {w : World} {B csb sab mb : Nat} {ma : Option Addr} {n mc : Nat} {Mk : Nat → Bool} {ob : Nat → Nat} (h : Pre w B csb sab mb ma n mc Mk ob) (hB : B ≤ w.heap.size) (o : Obj) : Pre (w.alloc o) B csb sab mb ma n mc Mk ob := by
  obtain ⟨h1, h2, h3, h4, h5⟩ := h
  refine ⟨?_, ?_, ?_, h4, h5.alloc _⟩
  · rw [World.cell?_alloc_past _ _ _ (by omega)]; exact h1
  · intro i hi
    obtain ⟨mab, moff, e, hb, hc, hh⟩ := h2 i hi
    exact ⟨mab, moff, e, hb, hc, by rw [World.cell?_alloc_past _ _ _ (by omega)]; exact hh⟩
  · intro i hi
    obtain ⟨hb, hc, hh⟩ := h3 i hi
    exact ⟨hb, hc, by rw [World.cell?_alloc_past _ _ _ (by omega)]; exact hh⟩

theorem pre_of {w wB wP : World} {rb csb n B sab : Nat} {ob : Nat → Nat} {ma : Option Addr} {mc : Nat} {Mk : Nat → Bool} (hT : Two wB rb csb n ob) (mB : wB.cell? ⟨w.heap.size, 0, none⟩ = some (.slice ma n mc))
    (hM : ∀ i, i < n → ∃ mab moff, ma = some ⟨mab, moff, none⟩ ∧ mab < w.heap.size ∧ w.cell? ⟨mab, moff + i, none⟩ = some (.bool (Mk i))) (hbw : Below w.heap.size w wB) (hcs : w.heap.size < csb)
    (hbP : Below wB.heap.size wB wP) (hB : wB.heap.size ≤ B) (hs : B ≤ sab) : Pre wP B csb sab w.heap.size ma n mc Mk ob := by
  have lc := hT.cs.lt
  have lw := hbw.size
  refine ⟨?_, ?_, ?_, ⟨by omega, by omega, hs, by omega⟩, hT.cs.of_block (hbP.block _ lc)⟩
  · rw [hbP.cell (p := ⟨w.heap.size, 0, none⟩) (by show w.heap.size < _; omega)]; exact mB
  · intro i hi
    obtain ⟨mab, moff, e, hb, hh⟩ := hM i hi
    refine ⟨mab, moff, e, by omega, by omega, ?_⟩
    rw [hbP.cell (p := ⟨mab, moff + i, none⟩) (by show mab < _; omega), hbw.cell (p := ⟨mab, moff + i, none⟩) hb]; exact hh
  · intro i hi
    have hl := World.block_lt_of_cell? wB _ (hT.kid i hi)
    simp only at hl
    exact ⟨by omega, hT.ne i hi, by rw [hbP.cell (p := ⟨ob i, 12, none⟩) hl]; exact hT.kid i hi⟩

/-- Behind drop: what the rest of the law reads. -/
structure Post (w w' : World) (rb rO sab hob n mc k : Nat) (ma : Option Addr) (Mk : Nat → Bool) (ob oo : Nat → Nat) (sm : Bool) (kv vd : Value) : Prop where
  mbox : w'.cell? ⟨w.heap.size, 0, none⟩ = some (.slice ma n mc)
  mask : ∀ i, i < n → ∃ mab moff, ma = some ⟨mab, moff, none⟩ ∧ mab < w'.heap.size ∧ w'.cell? ⟨mab, moff + i, none⟩ = some (.bool (Mk i))
  orig : w'.rowIs rb 25 n (fun i => pt (ob i))
  old : w'.rowIs rO 25 k (fun i => pt (oo i))
  chil : w'.cell? ⟨hob, 78, none⟩ = some kv
  dele : w'.cell? ⟨sab, 79, none⟩ = some vd
  hkv : Holds w' kv (kep Mk ob n)
  hvd : Holds w' vd ((List.range k).map oo ++ del Mk ob n)
  nils : sm = false → w'.cell? ⟨hob, 79, none⟩ = some (.slice none 0 0) ∧ w'.cell? ⟨sab, 78, none⟩ = some (.slice none 0 0)
  bel : Below w.heap.size w w'
  kvs : ∃ ao c, kv = .slice ao (kep Mk ob n).length c
  vds : ∃ ao c, vd = .slice ao ((List.range k).map oo ++ del Mk ob n).length c

theorem holds_own {w : World} {B : Nat} {v : Value} {L : List Nat} (h : w.ownsRow B 25 1 v L.length (L.map pt)) : Holds w v L := by
  rcases h.2 with ⟨rfl, h0⟩ | ⟨g, cap, cur, rfl, _⟩
  · exact ⟨none, 0, by rw [h0], fun hp => by omega⟩
  · refine ⟨_, cap, rfl, fun hp => ⟨g, 0, rfl, fun j x hx => ?_⟩⟩
    have hj := (List.getElem?_eq_some_iff.1 hx).1
    rw [Nat.zero_add, h.cellAt j (by omega), List.getElem?_map, hx]; rfl

/-- The facts of 'Post' out of drop's contract. 'wP': the world ahead of sa's block. -/
theorem post_of {w wB wr w1 w2 : World} {rb csb n B sab hob mc k rO : Nat} {ob oo : Nat → Nat} {ma : Option Addr} {Mk : Nat → Bool} {sm : Bool} {cur ch : Array Value} {vd' : Value}
    (hT : Two wB rb csb n ob) (hR : wr.rowIs rO 25 k (fun i => pt (oo i))) (hrO : rO < B) (hrc : rO ≠ csb) (hb : Below wB.heap.size wB wr) (hBr : B = wr.heap.size) (hb2 : Below wr.heap.size wr w2)
    (hE : Pre w2 B csb sab w.heap.size ma n mc Mk ob) (hbw : Below w.heap.size w wB) (hcs : w.heap.size < csb) (hn : n ≤ 1024)
    (hcell : ∀ u x, (kep Mk ob n)[u]? = some x → w1.cell? ⟨csb, u, none⟩ = some (pt x)) (hd : DSt w1 B sab cur vd' ((List.range k).map oo ++ del Mk ob n)) (hf : Fr B (fun k => k = sab ∨ k = csb) w2 w1)
    (hH : w1.heap[hob]? = some (.cells ch 87 (0, 0))) (hHs : ch.size = 80) (hho : B ≤ hob)
    (hsame : hob = sab ∨ (sm = false ∧ hob ≠ sab ∧ ch[79]? = some (.slice none 0 0) ∧ cur[78]? = some (.slice none 0 0))) (hst : sm = false → hob ≠ sab) :
    Post w (w1.setCell ⟨hob, 78, none⟩ (.slice (some ⟨csb, 0, none⟩) (kep Mk ob n).length n)) rb rO sab hob n mc k ma Mk ob oo sm (.slice (some ⟨csb, 0, none⟩) (kep Mk ob n).length n) vd' := by
  have lwB := hbw.size
  have lc := hT.cs.lt
  have lr := hT.orig.lt
  have hsB := hb.size
  have hs2 := hb2.size
  have hs1 := hf.size
  obtain ⟨hm1, hm2, hsab, hcsB⟩ := hE.low
  have nx : ∀ b, b < B → b ≠ csb → ¬ (b = sab ∨ b = csb) := fun b hb hc e => by rcases e with e | e; omega; exact hc e
  have far : ∀ b o, b < B → (w1.setCell ⟨hob, 78, none⟩ (.slice (some ⟨csb, 0, none⟩) (kep Mk ob n).length n)).cell? ⟨b, o, none⟩ = w1.cell? ⟨b, o, none⟩ := fun b o hb =>
    World.cell?_setCell_far _ _ _ _ (show hob ≠ b by omega)
  have rowfar : ∀ {b m : Nat} {f : Nat → Value}, w2.rowIs b 25 m f → b < B → b ≠ csb → (w1.setCell ⟨hob, 78, none⟩ (.slice (some ⟨csb, 0, none⟩) (kep Mk ob n).length n)).rowIs b 25 m f := fun hr hb hc =>
    ((hf.rowLow hr hb (nx _ hb hc))).setOther (show _ ≠ hob by omega) _
  have hsl := lt_of_heap hd.blk
  refine ⟨?_, ?_, ?_, ?_, ?_, ?_, ?_, ?_, ?_, ?_, ⟨_, _, rfl⟩, ?_⟩
  · rw [far _ _ hm1, hf.cellLow hm1 (nx _ hm1 hm2)]; exact hE.mbox
  · intro i hi
    obtain ⟨mab, moff, e, hb', hc, hh⟩ := hE.mask i hi
    exact ⟨mab, moff, e, by simp [World.setCell]; omega, by rw [far _ _ hb', hf.cellLow hb' (nx _ hb' hc)]; exact hh⟩
  · have hnr := hT.nr
    exact rowfar ((hT.orig.of_block (hb.block _ lr)).of_block (hb2.block _ (by omega))) (by omega) hnr
  · exact rowfar (hR.of_block (hb2.block _ (by omega))) hrO hrc
  · have : (w1.setCell ⟨hob, 78, none⟩ (.slice (some ⟨csb, 0, none⟩) (kep Mk ob n).length n)).heap[hob]? = some (.cells (ch.setIfInBounds 78 (.slice (some ⟨csb, 0, none⟩) (kep Mk ob n).length n)) 87 (0, 0)) := by simp [World.setCell, Array.getElem?_modify, hH]
    rw [cell_of_row _ hob 78 _ _ _ this, Array.getElem?_setIfInBounds, if_pos rfl, if_pos (by omega)]
  · have h79 : w1.cell? ⟨sab, 79, none⟩ = some vd' := by rw [cell_of_row w1 sab 79 _ _ _ hd.blk, Array.getElem?_setIfInBounds, if_pos rfl, if_pos (by rw [hd.size]; omega)]
    rw [World.cell?_setCell_other _ _ _ _ (fun e => by simp at e)]; exact h79
  · exact ⟨_, _, rfl, fun hp => ⟨csb, 0, rfl, fun u x hx => by rw [Nat.zero_add, far _ _ hcsB]; exact hcell u x hx⟩⟩
  · have hne : vd'.ownBlock ≠ some hob := by
      intro e
      rcases hd.own.2 with ⟨h, _⟩ | ⟨g, cap, cu, h, _, hg, _⟩
      · rw [h] at e; simp [Value.ownBlock] at e
      · rw [h] at e; simp only [Value.ownBlock, Option.some.injEq] at e; rw [e, hH] at hg; simp at hg
    exact holds_own (ownsRow_setCell_other hd.own hne _)
  · intro hsm
    rcases hsame with e | ⟨_, hne, h1, h2⟩
    · exact absurd e (hst hsm)
    · refine ⟨?_, ?_⟩
      · rw [World.cell?_setCell_other _ _ _ _ (fun e => by simp at e), cell_of_row w1 hob 79 _ _ _ hH]; exact h1
      · rw [World.cell?_setCell_far _ _ _ _ hne, cell_of_row w1 sab 78 _ _ _ hd.blk, Array.getElem?_setIfInBounds, if_neg (by omega)]; exact h2
  · have hw2 : Below w.heap.size w w2 := hbw.trans ((hb.mono lwB).trans (hb2.mono (by omega)))
    have h1 : Below w.heap.size w2 w1 := ⟨hf.os, hf.tape, hf.output, hf.size, fun k hk => hf.low k (by omega) (nx k (by omega) (by omega))⟩
    exact (hw2.trans h1).setCell (show w.heap.size ≤ hob by omega) _
  · obtain ⟨ao, c, h⟩ := ownsRow_slice hd.own
    exact ⟨ao, c, h⟩
end Go.Proofs.Ybulkwbk
