import Derived.Test.YbulkwbkClo
namespace Go.Proofs.Ybulkwbk
open Go.RowKit
set_option linter.unusedVariables false
attribute [local go_sem ↓] Go.wp_at_zero Go.wp_at_succ

theorem ownsRow_slice {w : World} {base : Nat} {e : TypeId} {size : Nat} {v : Value} {n : Nat} {xs : List Value} (h : w.ownsRow base e size v n xs) :
    ∃ ao c, v = .slice ao n c := by
  rcases h.2 with ⟨rfl, rfl⟩ | ⟨g, cap, cur, rfl, _⟩
  · exact ⟨none, 0, rfl⟩
  · exact ⟨_, cap, rfl⟩

theorem ownBlock_ne {w : World} {base : Nat} {e t : TypeId} {size : Nat} {v : Value} {n b : Nat} {xs : List Value} {c : Array Value} {fz : Nat × Nat} (h : w.ownsRow base e size v n xs) (hb : w.heap[b]? = some (.cells c t fz)) (ht : e ≠ t) : some b ≠ v.ownBlock := by
  rcases h.2 with ⟨rfl, rfl⟩ | ⟨g, cap, cur, rfl, _, hg, _⟩
  · simp [Value.ownBlock]
  · intro hh
    simp only [Value.ownBlock, Option.some.injEq] at hh
    subst hh
    rw [hg] at hb
    simp at hb
    exact ht hb.2.1

theorem dst_step {w0 w1 w2 : World} {B sab : Nat} {cur : Array Value} {vd : Value} {D : List Nat} {c g cap : Nat} (h : DSt w1 B sab cur vd D) (hf : Fr B (fun k => k = sab) w0 w1)
    (hown : w2.ownsRow B 25 1 (.slice (some ⟨g, 0, none⟩) (D.length + 1) cap) (D.length + 1) (D.map pt ++ [pt c]))
    (hgrow : (w1.alloc (.cells #[pt c] 25)).drew.grownBy w2 vd.ownBlock) :
    DSt (w2.setCell ⟨sab, 79, none⟩ (.slice (some ⟨g, 0, none⟩) (D.length + 1) cap)) B sab cur (.slice (some ⟨g, 0, none⟩) (D.length + 1) cap) (D ++ [c]) ∧
    Fr B (fun k => k = sab) w0 (w2.setCell ⟨sab, 79, none⟩ (.slice (some ⟨g, 0, none⟩) (D.length + 1) cap)) := by
  have ls := lt_of_heap h.blk
  have hB := h.hB
  have hne := ownBlock_ne h.own h.blk (by decide)
  have hb2 : w2.heap[sab]? = some (.cells (cur.setIfInBounds 79 vd) 87 (0, 0)) := (hgrow.block sab (by simp; omega) hne).trans ((Below.heap_alloc _ _ _ ls).trans h.blk)
  have hs2 := hgrow.size
  simp at hs2
  refine ⟨⟨?_, h.size, ?_, ?_⟩, ?_⟩
  · simp [World.setCell, Array.getElem?_modify, hb2]
  · rw [List.length_append, List.map_append]
    exact ownsRow_setCell_other hown (Ne.symm (ownBlock_ne hown hb2 (by decide))) _
  · simp [World.setCell]; omega
  · exact ((hf.alloc hB _).drew.grown (by simp; omega) (h.own.alloc _).drew hgrow).setCell rfl _

set_option maxRecDepth 100000 in
set_option maxHeartbeats 4000000 in
/-- What drop hands to slices.DeleteFunc. -/
theorem clo11 (B csb sab bg bs mb : Nat) (ma : Option Addr) (n mc : Nat) (Mk : Nat → Bool) (ob : Nat → Nat) (cur : Array Value) (vd : Value) (D : List Nat) (i : Nat) (hi : i < n) (hn : n ≤ 1024) (hD : D.length ≤ 2000) (w : World)
    (hE : Env w B csb sab bg bs mb ma n mc Mk ob) (hS : DSt w B sab cur vd D) :
    Calls Yba.prog 11 #[pt (ob i), .pointer (some ⟨bg, 0, none⟩), .pointer (some ⟨bs, 0, none⟩)] w fun e w' =>
      e = .returned (.bool (Mk i)) ∧ (∃ vd', DSt w' B sab cur vd' (if Mk i then D ++ [ob i] else D)) ∧ Fr B (fun k => k = sab) w w' := by
  obtain ⟨mab, moff, rfl, _, _, hm⟩ := hE.mask i hi
  have hk := (hE.kid i hi).2.2
  have hmb := hE.mbox
  have g0 : w.cell? ⟨bg, 0, none⟩ = some (.func (.func 7) #[] #[.pointer (some ⟨mb, 0, none⟩)]) := by simp [World.cell?, hE.boxg]
  obtain ⟨ao, cv, hvd⟩ := ownsRow_slice hS.own
  subst hvd
  obtain ⟨i0, hi0, hz0, hz1, hz2⟩ := info_parts info25
  have hc := fun W h0 h1 h2 => clo7 mb mab moff n mc i (ob i) (Mk i) hi hn W h0 h1 h2
  cases hMi : Mk i with
  | false =>
    rw [hMi] at hc
    go_enter Yba.func11, Yba.ntmps11
    go_wp2_with (go_at_call 7; refine (hc _ hmb hk (by rw [hm, hMi])).mono ?_; rintro e w' ⟨rfl, q, rfl⟩)
    go_ret
    exact ⟨rfl, ⟨_, hS.drewN q⟩, (Fr.refl _ _ _).drewN q⟩
  | true =>
    rw [hMi] at hc
    have e0 : w.cell? ⟨bs, 0, none⟩ = some (pt sab) := by simp [World.cell?, hE.boxs]
    go_enter Yba.func11, Yba.ntmps11
    go_wp2_with (go_at_call 7; refine (hc _ hmb hk (by rw [hm, hMi])).mono ?_; rintro e w' ⟨rfl, q, rfl⟩)
    generalize hwq : w.drewN q = wq
    have hS' : DSt wq B sab cur (.slice ao D.length cv) D := by rw [← hwq]; exact hS.drewN q
    have hF' : Fr B (fun k => k = sab) w wq := by rw [← hwq]; exact (Fr.refl _ _ _).drewN q
    have e1 : wq.cell? ⟨bs, 0, none⟩ = some (pt sab) := by rw [← hwq]; exact e0
    have l0 : bs < wq.heap.size := World.block_lt_of_cell? wq _ e1
    have l1 := lt_of_heap hS'.blk
    have e2 : wq.cell? ⟨sab, 79, none⟩ = some (.slice ao D.length cv) := by simp [World.cell?, hS'.blk, hS'.size]
    have z2 : wq.frozen? ⟨sab, 79, none⟩ = false := frozen_of_row wq sab 79 _ _ hS'.blk
    have hnb : Hid (some bs ≠ (Value.slice ao D.length cv).ownBlock) := ownBlock_ne hS.own hE.boxs (by decide)
    have hns : Hid (some sab ≠ (Value.slice ao D.length cv).ownBlock) := ownBlock_ne hS.own hS.blk (by decide)
    have hB := hS'.hB
    clear hwq hc hm hk hmb g0 e0 hE
    have sA : Hid ((wq.alloc (.cells #[pt (ob i)] 25)).drew.ownsRow B 25 1 (.slice ao D.length cv) D.length (D.map pt)) := (hS'.own.alloc _).drew
    have sB : Hid (∀ j u, [pt (ob i)][j]? = some u → (wq.alloc (.cells #[pt (ob i)] 25)).drew.cell? ((⟨wq.heap.size, 0, none⟩ : Addr).add j) = some u) := by
      intro j u hj
      rw [Addr.add_lit, Nat.zero_add]
      show (wq.alloc _).cell? _ = _
      rw [World.cell?_alloc_at _ _ _ _ rfl]
      simpa using hj
    have sC : Hid (∀ u ∈ [pt (ob i)], u.oneCell' = true) := by
      intro u hu
      simp at hu
      subst hu; rfl
    have sD : Hid (D.length + 1 ≤ maxLen) := by show D.length + 1 ≤ maxLen; unfold maxLen; omega
    have sE : Hid (B ≤ (wq.alloc (.cells #[pt (ob i)] 25)).drew.heap.size) := by show B ≤ _; simp; omega
    have sF : Hid ((wq.alloc (.cells #[pt (ob i)] 25)).drew.heap.size = wq.heap.size + 1) := by show _ = _; simp
    go_cut [] (fun wx => ∃ g cap, DSt wx B sab cur (.slice (some ⟨g, 0, none⟩) (D.length + 1) cap) (D ++ [ob i]) ∧ Fr B (fun k => k = sab) w wx)
    case first =>
      go_region_law ((refine step_append_lies _ (by rfl) _ _ _ (by rfl) B 25 i0 _ 1 8 Yba.underlying23 hi0 hz0 hz1 hz2 (by rfl) (by omega) (.slice ao D.length cv) D.length (D.map pt) (by rfl) sA.out ⟨wq.heap.size, 0, none⟩ 1 1 [pt (ob i)] (by rfl) (by rfl) sB.out sC.out (by omega) sD.out (by omega) sE.out (wq.heap.size + 1) sF.out ?_; intro g cap w2 hown2 hgrow hat hlt; have y0 : w2.cell? ⟨bs, 0, none⟩ = some (pt sab) := (hgrow.cell_far _ (by simp; omega) hnb.out).trans (by simp [e1, World.cell?_alloc_some]); have y1 : w2.cell? ⟨sab, 79, none⟩ = some (.slice ao D.length cv) := (hgrow.cell_far _ (by simp; omega) hns.out).trans (by simp [e2, World.cell?_alloc_some]); have y2 : w2.frozen? ⟨sab, 79, none⟩ = false := (hgrow.frozen_far _ (by simp; omega) hns.out).trans (by rw [show (wq.alloc (.cells #[pt (ob i)] 25)).drew.frozen? ⟨sab, 79, none⟩ = _ from World.frozen?_alloc_past _ _ _ l1]; exact z2)))
      all_goals (go_wp2_with fail; go_meet; case rel => exact ⟨_, _, dst_step hS' hF' hown2 hgrow⟩)
    case rest =>
      obtain ⟨g, cap, hd, hf⟩ := hcut
      go_wp2
      go_ret
      exact ⟨rfl, ⟨_, hd⟩, hf⟩
end Go.Proofs.Ybulkwbk
