import Derived.Test.YbulkvukSearch
import Derived.Test.YbulkvukIns
import Derived.WalkKit
import Derived.Deep.RegionHeld3
import Derived.Deep.DrawnRows
import Derived.Deep.AppendLies
import Derived.Deep.RegionLaw
import Derived.Deep.DeepCutAuto
namespace Go.Proofs.Ybulkvuk
open Go.RowKit
set_option linter.unusedVariables false
attribute [local go_sem ↓] Go.wp_at_zero Go.wp_at_succ

theorem info49 : (Yba.prog.info? 49).map (fun i => (i.zero, i.size, i.bytes)) = some (some (.agg #[.int .i64 0, .int .i64 0, .string ⟨#[]⟩]), 3, 32) := by kernel_rfl

theorem ownsRow_slice {w : World} {base : Nat} {e : TypeId} {size : Nat} {v : Value} {n : Nat} {xs : List Value} (h : w.ownsRow base e size v n xs) :
    ∃ ao c, v = .slice ao n c ∧ (0 < n → ∃ g, ao = some ⟨g, 0, none⟩) := by
  rcases h.2 with ⟨rfl, rfl⟩ | ⟨g, cap, cur, rfl, _⟩
  · exact ⟨none, 0, rfl, fun h => by omega⟩
  · exact ⟨_, cap, rfl, fun _ => ⟨g, rfl⟩⟩

/-- An owned row lies in no block of another element type. -/
theorem ownBlock_ne {w : World} {base : Nat} {e t : TypeId} {size : Nat} {v : Value} {n b : Nat} {xs : List Value} {c : Array Value} {fz : Nat × Nat} (h : w.ownsRow base e size v n xs) (hb : w.heap[b]? = some (.cells c t fz)) (ht : e ≠ t) : some b ≠ v.ownBlock := by
  rcases h.2 with ⟨rfl, rfl⟩ | ⟨g, cap, cur, rfl, _, hg, _⟩
  · simp [Value.ownBlock]
  · intro hh
    simp only [Value.ownBlock, Option.some.injEq] at hh
    subst hh
    rw [hg] at hb
    simp at hb
    exact ht hb.2.1

theorem heap_setCell_at {w : World} {b o : Nat} {c : Array Value} {t : TypeId} {fz : Nat × Nat} (h : w.heap[b]? = some (.cells c t fz)) (v : Value) : (w.setCell ⟨b, o, none⟩ v).heap[b]? = some (.cells (c.setIfInBounds o v) t fz) := by
  simp [World.setCell, Array.getElem?_modify, h]

/-- Behind 't.values = append(t.values, v)'. -/
structure Mid (w1 wx : World) (B N tb m : Nat) (ss : Value) (M : List (Int × Int × ByteArray)) (ns : List Int) (vs : Value) : Prop where
  box : wx.heap[N]? = some (.cells #[.pointer (some ⟨tb, 0, none⟩)] 62 (0, 0))
  blk : wx.heap[tb]? = some (.cells #[.func (.func 18) #[] #[], vs, ss] 110 (0, 0))
  rowV : wx.ownsRow B 49 3 vs (m + 1) (encM M)
  rowS : wx.ownsRow B 3 1 ss m (ns.map (Value.int .i64))
  bel : Below B w1 wx

theorem mid_of {w1 w2 : World} {B N tb m : Nat} {vs ss : Value} {M : List (Int × Int × ByteArray)} {ns : List Int} {a b : Int} {s : ByteArray} {g cap : Nat} (T1 : TabBox w1 N B tb m vs ss M ns) (hB : B ≤ w1.heap.size)
    (hN : some N ≠ vs.ownBlock) (hNt : N ≠ tb)
    (hown : w2.ownsRow B 49 3 (.slice (some ⟨g, 0, none⟩) (m + 1) cap) (m + 1) (encM M ++ [.int .i64 a, .int .i64 b, .string s]))
    (hgrow : (w1.alloc (.cells #[.int .i64 a, .int .i64 b, .string s] 49)).drew.grownBy w2 vs.ownBlock) :
    Mid w1 (w2.setCell ⟨tb, 1, none⟩ (.slice (some ⟨g, 0, none⟩) (m + 1) cap)) B N tb m ss (M ++ [(a, b, s)]) ns (.slice (some ⟨g, 0, none⟩) (m + 1) cap) := by
  have lN := lt_of_heap T1.1
  have lt := lt_of_heap T1.2.blk
  have htv := ownBlock_ne T1.2.rowV T1.2.blk (by decide)
  have hold : ∀ k, k < w1.heap.size → some k ≠ vs.ownBlock → w2.heap[k]? = w1.heap[k]? := fun k hk hne =>
    (hgrow.block k (by simp; omega) hne).trans (Below.heap_alloc _ _ _ hk)
  have ht2 : w2.heap[tb]? = some (.cells #[.func (.func 18) #[] #[], vs, ss] 110 (0, 0)) := (hold tb lt htv).trans T1.2.blk
  refine ⟨?_, ?_, ?_, ?_, ?_⟩
  · rw [Below.heap_setCell _ _ _ _ hNt]
    exact (hold N lN hN).trans T1.1
  · rw [heap_setCell_at ht2]; rfl
  · rw [encM_append]
    exact ownsRow_setCell_other hown (Ne.symm (ownBlock_ne hown ht2 (by decide))) _
  · have hsv : ss.ownBlock = none ∨ ss.ownBlock ≠ vs.ownBlock := by
      rcases T1.2.rowS.2 with ⟨h, _⟩ | ⟨g', c', cu, h, _, hg', _⟩
      · rw [h]; exact .inl rfl
      · right; rw [h]; exact ownBlock_ne T1.2.rowV hg' (by decide)
    have h2 := ((T1.2.rowS.alloc (.cells #[.int .i64 a, .int .i64 b, .string s] 49)).drew).kept hgrow hsv
    exact ownsRow_setCell_other h2 (Ne.symm (ownBlock_ne h2 ht2 (by decide))) _
  · have hb0 : Below B w1 (w1.alloc (.cells #[.int .i64 a, .int .i64 b, .string s] 49)).drew := ((Below.refl B w1).alloc hB _).drew
    exact (hb0.grown hgrow (by simp; omega) (fun k hk => (T1.2.rowV.lt k hk).1)).setCell T1.2.low _

theorem tab_of {w1 wx w3 : World} {B N tb m i : Nat} {vs ss ss' : Value} {M : List (Int × Int × ByteArray)} {ns : List Int} (hM : Mid w1 wx B N tb m ss M ns vs) (hB : B ≤ wx.heap.size) (low : B ≤ tb) (hlM : M.length = m + 1) (hbd : ∀ x ∈ ns, 0 ≤ x ∧ x < m)
    (hown : w3.ownsRow B 3 1 ss' (m + 1) ((ns.take i ++ [(m : Int)] ++ ns.drop i).map (Value.int .i64)))
    (hgrow : (wx.alloc (.cells #[.int .i64 m] 3)).drew.grownBy w3 ss.ownBlock) :
    Tab (w3.setCell ⟨tb, 2, none⟩ ss') B tb (m + 1) vs ss' M (ns.take i ++ [(m : Int)] ++ ns.drop i) ∧ Below B w1 (w3.setCell ⟨tb, 2, none⟩ ss') := by
  have lt := lt_of_heap hM.blk
  have hts := ownBlock_ne hM.rowS hM.blk (by decide)
  have ht3 : w3.heap[tb]? = some (.cells #[.func (.func 18) #[] #[], vs, ss] 110 (0, 0)) :=
    (hgrow.block tb (by simp; omega) hts).trans ((Below.heap_alloc _ _ _ lt).trans hM.blk)
  have hl : (ns.take i ++ [(m : Int)] ++ ns.drop i).length = m + 1 := by have := hown.1; simpa using this
  refine ⟨⟨low, by rw [heap_setCell_at ht3]; rfl, hlM, hl, ?_, ?_, ?_, fun h => by omega⟩, ?_⟩
  · have hvs : vs.ownBlock = none ∨ vs.ownBlock ≠ ss.ownBlock := by
      rcases hM.rowV.2 with ⟨h, _⟩ | ⟨g', c', cu, h, _, hg', _⟩
      · rw [h]; exact .inl rfl
      · right; rw [h]; exact ownBlock_ne hM.rowS hg' (by decide)
    have h2 := ((hM.rowV.alloc (.cells #[.int .i64 m] 3)).drew).kept hgrow hvs
    exact ownsRow_setCell_other h2 (Ne.symm (ownBlock_ne h2 ht3 (by decide))) _
  · exact ownsRow_setCell_other hown (Ne.symm (ownBlock_ne hown ht3 (by decide))) _
  · intro x hx
    simp only [List.mem_append, List.mem_singleton] at hx
    rcases hx with (hx | rfl) | hx
    · have := hbd x (List.mem_of_mem_take hx); omega
    · omega
    · have := hbd x (List.mem_of_mem_drop hx); omega
  · have hb0 : Below B wx (wx.alloc (.cells #[.int .i64 m] 3)).drew := ((Below.refl B wx).alloc hB _).drew
    exact hM.bel.trans ((hb0.grown hgrow (by simp; omega) (fun k hk => (hM.rowS.lt k hk).1)).setCell low _)

set_option maxHeartbeats 4000000 in
theorem number (w : World) (B tb m : Nat) (vs ss : Value) (M : List (Int × Int × ByteArray)) (ns : List Int) (hT : Tab w B tb m vs ss M ns) (hm : m ≤ 999) (hB : B ≤ w.heap.size) (a b : Int) (s : ByteArray) :
    Calls Yba.prog 19 #[.pointer (some ⟨tb, 0, none⟩), msgV a b s] w fun e w' =>
      (∃ v, e = .returned v) ∧ (∃ m' vs' ss' M' ns', m' ≤ m + 1 ∧ Tab w' B tb m' vs' ss' M' ns') ∧ Below B w w' := by
  have ltb := lt_of_heap hT.blk
  have hTb : TabBox ((w.alloc (.cells #[.pointer (some ⟨tb, 0, none⟩)] 62)).alloc (.cells #[.int .i64 a, .int .i64 b, .string s] 49)) w.heap.size B tb m vs ss M ns :=
    ⟨by rw [Below.heap_alloc _ _ _ (by simp)]; exact heap_alloc_new w _, hT.below (((Below.refl w.heap.size w).alloc (Nat.le_refl _) _).alloc (by simp) _)⟩
  have hwB : Below w.heap.size w ((w.alloc (.cells #[.pointer (some ⟨tb, 0, none⟩)] 62)).alloc (.cells #[.int .i64 a, .int .i64 b, .string s] 49)).drew :=
    (((Below.refl w.heap.size w).alloc (Nat.le_refl _) _).alloc (by simp) _).drew
  have t2 : w.cell? ⟨tb, 2, none⟩ = some ss := by simp [World.cell?, hT.blk]
  have n0 : w.heap.size ≠ tb := by omega
  obtain ⟨ao, cs, hss, hao⟩ := ownsRow_slice hT.rowS
  obtain ⟨av, cv, hvs, hav⟩ := ownsRow_slice hT.rowV
  subst hss hvs
  have hvl : ∀ k, (Value.slice av m cv).ownBlock = some k → k < w.heap.size := fun k hk => (hT.rowV.lt k hk).2
  obtain ⟨i0, hi0, hz0, hz1, hz2⟩ := info_parts info49
  go_enter Yba.func19, Yba.ntmps19
  go_wp2
  go_region_held3 (fun w' => w'.cell? ⟨w.heap.size, 0, none⟩ = some (.pointer (some ⟨tb, 0, none⟩)) ∧ w'.cell? ⟨tb, 2, none⟩ = some (.slice ao m cs) ∧ w'.cell? ⟨w.heap.size + 1, 0, none⟩ = some (.int .i64 a) ∧ w'.cell? ⟨w.heap.size + 1, 1, none⟩ = some (.int .i64 b) ∧ w'.cell? ⟨w.heap.size + 1, 2, none⟩ = some (.string s))
    (first | (go_keep; done) | (refine ⟨?_, ?_, ?_, ?_, ?_⟩ <;> (rw [hb.cell] <;> first | (simp [*]; done) | (simp; omega))))
    (first
      | (go_at_call 38; refine (searchAny w.heap.size B tb m _ _ M ns (by omega) _ _ _ _ hTb.drew).mono ?_; rintro e w1 ⟨i, f, rfl, hi, hf, hb⟩))
  have T1 := hTb.drew.below hb
  have hw1 : Below w.heap.size w w1 := hwB.trans (hb.mono (by simp; omega))
  have q0 : w1.cell? ⟨w.heap.size, 0, none⟩ = some (.pointer (some ⟨tb, 0, none⟩)) := by simp [World.cell?, T1.1]
  have q1 : w1.cell? ⟨tb, 1, none⟩ = some (.slice av m cv) := by simp [World.cell?, T1.2.blk]
  have q2 : w1.cell? ⟨tb, 2, none⟩ = some (.slice ao m cs) := by simp [World.cell?, T1.2.blk]
  have v0 : w1.cell? ⟨w.heap.size + 1, 0, none⟩ = some (.int .i64 a) := by simp [*]
  have v1 : w1.cell? ⟨w.heap.size + 1, 1, none⟩ = some (.int .i64 b) := by simp [*]
  have v2 : w1.cell? ⟨w.heap.size + 1, 2, none⟩ = some (.string s) := by simp [*]
  have hsz : w.heap.size + 1 < w1.heap.size := by have := hb.size; simp at this; omega
  rename_i hHeld
  clear hHeld hb hTb hwB t2 hT
  cases f with
  | true =>
    have him : i < m := hf rfl
    obtain ⟨gs, rfl⟩ := hao (by omega)
    obtain ⟨x, hx⟩ : ∃ x, w1.cell? ⟨gs, i, none⟩ = some (.int .i64 x) := by
      have hl : ns[i]? = some (ns[i]'(by have := T1.2.lenN; omega)) := List.getElem?_eq_getElem _
      exact ⟨_, by rw [T1.2.rowS.cellAt i (by omega), List.getElem?_map, hl]; rfl⟩
    have e1 : (i : Int) < (m : Int) := by omega
    clear hf
    go_wp2
    go_ret2
    exact ⟨⟨_, rfl⟩, ⟨m, _, _, M, ns, by omega, T1.2⟩, hw1.mono hB⟩
  | false =>
    clear hf hao hav
    have sA : Hid ((w1.alloc (.cells #[.int .i64 a, .int .i64 b, .string s] 49)).drew.ownsRow B 49 3 (.slice av m cv) m (encM M)) := (T1.2.rowV.alloc _).drew
    have sB : Hid (∀ j u, [Value.int .i64 a, .int .i64 b, .string s][j]? = some u → (w1.alloc (.cells #[.int .i64 a, .int .i64 b, .string s] 49)).drew.cell? ((⟨w1.heap.size, 0, none⟩ : Addr).add j) = some u) := by
      intro j u hj
      rw [Addr.add_lit, Nat.zero_add]
      show (w1.alloc _).cell? _ = _
      rw [World.cell?_alloc_at _ _ _ _ rfl]
      simpa using hj
    have sC : Hid (∀ u ∈ [Value.int .i64 a, .int .i64 b, .string s], u.oneCell' = true) := by
      intro u hu
      simp at hu
      rcases hu with rfl | rfl | rfl <;> rfl
    have sD : Hid (m + 1 ≤ maxLen) := by show m + 1 ≤ maxLen; unfold maxLen; omega
    have sE : Hid (B ≤ (w1.alloc (.cells #[.int .i64 a, .int .i64 b, .string s] 49)).drew.heap.size) := by show B ≤ _; simp; omega
    have sF : Hid ((w1.alloc (.cells #[.int .i64 a, .int .i64 b, .string s] 49)).drew.heap.size = w1.heap.size + 1) := by show _ = _; simp
    have sG : Hid (some w.heap.size ≠ (Value.slice av m cv).ownBlock) := by intro h; have := hvl _ h.symm; omega
    have sH : Hid (some tb ≠ (Value.slice av m cv).ownBlock) := ownBlock_ne T1.2.rowV T1.2.blk (by decide)
    have l1 : w.heap.size < w1.heap.size := by omega
    have l2 : tb < w1.heap.size := by omega
    have fz : w1.frozen? ⟨tb, 1, none⟩ = false := frozen_of_row w1 tb 1 _ _ T1.2.blk
    go_wp2
    go_cut [] (fun wx => ∃ g cap, Mid w1 wx B w.heap.size tb m (.slice ao m cs) (M ++ [(a, b, s)]) ns (.slice (some ⟨g, 0, none⟩) (m + 1) cap))
    case first =>
      go_region_law ((refine step_append_lies _ (by rfl) _ _ _ (by rfl) B 49 i0 _ 3 32 Yba.underlying61 hi0 hz0 hz1 hz2 (by rfl) (by omega) (.slice av m cv) m (encM M) (by rfl) sA.out ⟨w1.heap.size, 0, none⟩ 1 1 [.int .i64 a, .int .i64 b, .string s] (by rfl) (by rfl) sB.out sC.out (by omega) sD.out (by omega) sE.out (w1.heap.size + 1) sF.out ?_; intro g cap w2 hown2 hgrow hat hlt; have z0 : w2.cell? ⟨w.heap.size, 0, none⟩ = some (.pointer (some ⟨tb, 0, none⟩)) := (hgrow.cell_far _ (by simp; omega) sG.out).trans (by simp [q0, World.cell?_alloc_some]); have z1 : w2.cell? ⟨tb, 1, none⟩ = some (.slice av m cv) := (hgrow.cell_far _ (by simp; omega) sH.out).trans (by simp [q1, World.cell?_alloc_some]); have z2 : w2.frozen? ⟨tb, 1, none⟩ = false := (hgrow.frozen_far _ (by simp; omega) sH.out).trans (by rw [show (w1.alloc (.cells #[.int .i64 a, .int .i64 b, .string s] 49)).drew.frozen? ⟨tb, 1, none⟩ = _ from World.frozen?_alloc_past _ _ _ l2]; exact fz)))
      all_goals (go_wp2_with fail; go_meet; case rel => exact ⟨_, _, mid_of T1 (by omega) sG.out (by omega) hown2 hgrow⟩)
    case rest =>
      obtain ⟨g, cap, hM⟩ := hcut
      clear q0 q1 q2 v0 v1 v2 sA sB sC sD sE sF sG sH fz hi0 hz0 hz1 hz2
      have hlow := T1.2.low
      have hnil := T1.2.nil
      have hlM := T1.2.lenM
      have hbd := T1.2.bnd
      have hxs := hM.bel.size
      have lN := lt_of_heap hM.box
      have lt := lt_of_heap hM.blk
      have p0 : wc.cell? ⟨w.heap.size, 0, none⟩ = some (.pointer (some ⟨tb, 0, none⟩)) := by simp [World.cell?, hM.box]
      have p2 : wc.cell? ⟨tb, 2, none⟩ = some (.slice ao m cs) := by simp [World.cell?, hM.blk]
      have pz : wc.frozen? ⟨tb, 2, none⟩ = false := frozen_of_row wc tb 2 _ _ hM.blk
      have sI : Hid (some w.heap.size ≠ (Value.slice ao m cs).ownBlock) := ownBlock_ne hM.rowS hM.box (by decide)
      have sJ : Hid (some tb ≠ (Value.slice ao m cs).ownBlock) := ownBlock_ne hM.rowS hM.blk (by decide)
      have e1 : Hid (B ≤ (wc.alloc (.cells #[.int .i64 m] 3)).drew.heap.size) := by show B ≤ _; simp; omega
      have e2 : Hid (m = 0 → Value.slice ao m cs = .slice none 0 0) := fun h => (hnil h).2
      have e3 : Hid ((wc.alloc (.cells #[.int .i64 m] 3)).drew.ownsRow B 3 1 (.slice ao m cs) m (ns.map (Value.int .i64))) := (hM.rowS.alloc _).drew
      have e4 : Hid ((wc.alloc (.cells #[.int .i64 m] 3)).drew.heap[wc.heap.size]? = some (.cells #[.int .i64 m] 3 (0, 0))) := heap_alloc_new wc _
      have e5 : Hid ((Value.slice ao m cs).ownBlock ≠ some wc.heap.size) := fun h => by have := (hM.rowS.lt _ h).2; omega
      clear T1 hnil
      go_wp2
      go_region_with ((go_at_call 40; refine (ins _ B _ m i wc.heap.size ns m hi (by omega) e1.out e2.out e3.out e4.out e5.out).mono ?_; rintro e w3 ⟨g', c', rfl, hown3, hgrow3⟩; have y0 : w3.cell? ⟨w.heap.size, 0, none⟩ = some (.pointer (some ⟨tb, 0, none⟩)) := (hgrow3.cell_far _ (by simp; omega) sI.out).trans (by simp [p0, World.cell?_alloc_some]); have y2 : w3.cell? ⟨tb, 2, none⟩ = some (.slice ao m cs) := (hgrow3.cell_far _ (by simp; omega) sJ.out).trans (by simp [p2, World.cell?_alloc_some]); have yz : w3.frozen? ⟨tb, 2, none⟩ = false := (hgrow3.frozen_far _ (by simp; omega) sJ.out).trans (by rw [show (wc.alloc (.cells #[.int .i64 m] 3)).drew.frozen? ⟨tb, 2, none⟩ = _ from World.frozen?_alloc_past _ _ _ lt]; exact pz)))
      all_goals
        go_wp2
        go_ret2
        have R := tab_of hM (by omega) hlow (by simp [hlM]) hbd hown3 hgrow3
        exact ⟨⟨_, rfl⟩, ⟨m + 1, _, _, _, _, Nat.le_refl _, R.1⟩, (hw1.mono hB).trans R.2⟩
end Go.Proofs.Ybulkvuk
