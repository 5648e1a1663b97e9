import Derived.Test.YbulkwbkTail
namespace Go.Proofs.Ybulkwbk
open Go.RowKit
set_option linter.unusedVariables false

set_option maxRecDepth 100000 in
set_option maxHeartbeats 2000000 in
theorem split_walk (ma : Option Addr) (n mc : Nat) (hnc : n ≤ 9223372036854775807) (a1 : Int) (h0 : 0 ≤ a1) (h1 : a1 ≤ 255) (sm : Bool) (Mk : Nat → Bool) (w : World)
    (hM : ∀ i, i < n → ∃ mab moff, ma = some ⟨mab, moff, none⟩ ∧ mab < w.heap.size ∧ w.cell? ⟨mab, moff + i, none⟩ = some (.bool (Mk i))) :
    Calls Yba.prog 3 #[.slice ma n mc, .int .u8 a1, .bool sm] w fun e w' => e = .returned (.bool true) ∧ Below w.heap.size w w' := by
  by_cases hbig : 1024 < n
  · have b1 : (1024 : Int) < (n : Int) := by omega
    clear hM
    go_enter Yba.func3, Yba.ntmps3
    go_wp2
    go_ret
    exact ⟨rfl, (Below.refl _ _).alloc (Nat.le_refl _) _⟩
  · have b1 : ¬ (1024 : Int) < (n : Int) := by omega
    obtain ⟨p, rfl⟩ := Int.eq_ofNat_of_zero_le h0
    have hmk := mk23 n (by omega)
    have HM : Hid (∀ i, i < n → ∃ mab moff, ma = some ⟨mab, moff, none⟩ ∧ mab < w.heap.size ∧ w.cell? ⟨mab, moff + i, none⟩ = some (.bool (Mk i))) := hM
    clear hM
    go_enter Yba.func3, Yba.ntmps3
    go_wp2_with fail
    refine (build_any n (by omega) _).mono ?_
    rintro e wA ⟨rfl, hbA, ob, hK⟩
    simp only [World.size_alloc] at hbA hK
    obtain ⟨wB, hcp, hT, hsB, hbB⟩ := copy_run hK
    have hsA := hbA.size
    simp only [World.size_alloc] at hsA
    have mB : wB.cell? ⟨w.heap.size, 0, none⟩ = some (.slice ma n mc) := by
      rw [hbB.cell (p := ⟨w.heap.size, 0, none⟩) (by simp; omega), hbA.cell (p := ⟨w.heap.size, 0, none⟩) (by simp), World.cell?_alloc_at _ _ _ _ rfl]; rfl
    have hbw : Below w.heap.size w wB := ((Below.refl w.heap.size w).alloc (Nat.le_refl _) _).trans ((hbA.mono (by omega)).trans (hbB.mono (by omega)))
    obtain ⟨k, hk4, hkp⟩ : ∃ k : Nat, k ≤ 3 ∧ (p : Int) % 4 = (k : Int) := ⟨p % 4, by omega, by omega⟩
    have hmk2 := mk23 k (by omega)
    clear hK
    go_wp2_with fail
    rw [hkp]
    obtain ⟨rO, hrO⟩ : ∃ rO, rO = wA.heap.size + 1 := ⟨_, rfl⟩
    rw [← hrO]
    have hK0 : Kids (wB.alloc (.cells (madeCells #[.pointer none] k) 25)) rO k 0 (fun _ => 0) (fun i => -1 - (i : Int)) := by
      have := kids_zero wB k (fun i => -1 - (i : Int))
      rwa [hsB, ← hrO] at this
    have hrB : rO = wB.heap.size := by omega
    have HRB : Hid (rO = wB.heap.size) := hrB
    have lcs : wA.heap.size < wB.heap.size := by omega
    clear hkp hmk2 hcp hmk hsB hbB hbA hrO hrB
    go_loopw [12] (fun c wr => ∃ j : Nat, j ≤ k ∧ c = .int .i64 j ∧ Below wB.heap.size wB wr ∧ ∃ oo, Kids wr rO k j oo (fun i => -1 - (i : Int))) (fun c _ => k - (intOf c).toNat)
    case atStart => exact ⟨0, Nat.zero_le _, rfl, (Below.refl _ _).alloc (Nat.le_refl _) _, _, hK0⟩
    case round =>
      clear hK0
      obtain ⟨j, hj, rfl, hb, oo, hK⟩ := hrel
      have hs := hb.size
      by_cases hjk : j < k
      · have b2 : (j : Int) < (k : Int) := by omega
        obtain ⟨x, c0⟩ : ∃ x, wr.cell? ⟨rO, j, none⟩ = some x := ⟨_, hK.row.cell hjk⟩
        have f0 := hK.row.frozen j
        have l0 := hK.row.lt
        go_wp2
        go_roundw
        case rel => exact ⟨j + 1, by omega, by go_num, (hb.setCell (by rw [HRB.out]; exact Nat.le_refl _) _).alloc (by simp [World.setCell]; omega) _, _, kids_step hK hjk _ _ rfl⟩
        case measure => simp [intOf]; omega
      · obtain rfl : j = k := by omega
        have hR := kids_row hK
        obtain ⟨i0, hi0, hz0, hz1, hz2⟩ := info_parts info25
        clear hK
        go_wp2_with (at_builtin; refine wpList_append_own _ rfl _ _ 23 rfl wr.heap.size 25 i0 (.pointer none) 1 8 Yba.underlying23 hi0 hz0 hz1 hz2 rfl (by decide) (.slice none 0 0) 0 [] rfl (World.ownsRow_nil _ _ _ _) ⟨rO, 0, none⟩ j j ((List.range j).map fun i => pt (oo i)) rfl ?c0 ?c1 ?c2 ?c3 ?c4 (Nat.le_refl _) ?_)
        case c0 => simp
        case c1 =>
          intro u v hv
          have hu : u < j := by have := (List.getElem?_eq_some_iff.1 hv).1; simpa using this
          simp [hu] at hv
          subst hv
          rw [Addr.add_lit, Nat.zero_add]
          exact hR.cell hu
        case c2 =>
          intro v hv
          obtain ⟨i, _, rfl⟩ := List.mem_map.1 hv
          rfl
        case c3 => unfold maxLen; omega
        case c4 => omega
        intro vd wP hown hgrow hnil
        obtain ⟨ao, cv, hvd⟩ := ownsRow_slice hown
        subst hvd
        have hbP : Below wr.heap.size wr wP := ⟨hgrow.os, hgrow.tape, hgrow.output, hgrow.size, fun q hq => hgrow.block q hq (by simp [Value.ownBlock])⟩
        have hsP := hbP.size
        have hown' : wP.ownsRow wr.heap.size 25 1 (.slice ao j cv) ((List.range j).map oo).length (((List.range j).map oo).map pt) := by
          rw [List.length_map, List.length_range, List.map_map]; exact hown
        have hE0 : Pre wP wr.heap.size wA.heap.size wP.heap.size w.heap.size ma n mc Mk ob := pre_of hT mB HM.out hbw (by omega) (hb.trans (hbP.mono hs)) hs hsP
        have hlD : ((List.range j).map oo).length ≤ 900 := by simp; omega
        have HRL : Hid (rO < wr.heap.size ∧ rO ≠ wA.heap.size) := by
          refine ⟨hR.lt, ?_⟩
          rw [HRB.out]; omega
        clear hown hgrow hnil hi0 hz0 hz1 hz2
        refine wpList_build1 rfl 87 46 _ rfl (.slice ao j cv) _ rfl (build1 ao j cv wP) ?_
        cases sm with
        | true =>
          obtain ⟨w2, hw2⟩ : ∃ w2, w2 = wP.alloc (.cells (saC (.slice (some ⟨wA.heap.size, 0, none⟩) n n) (.slice ao j cv)) 87) := ⟨_, rfl⟩
          have hE2 : Pre w2 wr.heap.size wA.heap.size wP.heap.size w.heap.size ma n mc Mk ob := by rw [hw2]; exact hE0.alloc hsP _
          have hblk : w2.heap[wP.heap.size]? = some (.cells (saC (.slice (some ⟨wA.heap.size, 0, none⟩) n n) (.slice ao j cv)) 87 (0, 0)) := by rw [hw2]; exact heap_alloc_new wP _
          have hD2 : DSt w2 wr.heap.size wP.heap.size (saC (.slice (some ⟨wA.heap.size, 0, none⟩) n n) (.slice ao j cv)) (.slice ao j cv) ((List.range j).map oo) :=
            ⟨by rw [saC_set79]; exact hblk, saC_size _ _, by rw [hw2]; exact hown'.alloc _, by rw [hw2]; simp; omega⟩
          have hb2 : Below wr.heap.size wr w2 := by rw [hw2]; exact hbP.alloc hsP _
          have hdr := drop6 wr.heap.size wA.heap.size wP.heap.size wP.heap.size w.heap.size ma n mc Mk ob _ _ _ _ (by omega) hlD w2 hE2 hD2 hblk (saC_size _ _) (saC_78 _ _)
          rw [hw2] at hdr
          go_wp2_with fail
          rw [saC_set78]
          refine hdr.mono ?_
          rintro e w3 ⟨rfl, w1, rfl, hcell, ⟨vd', hd⟩, hf⟩
          rw [← hw2] at hf
          have hP := post_of (rO := rO) (k := j) (oo := oo) (sm := true) hT hR HRL.out.1 HRL.out.2 hb rfl hb2 hE2 hbw (by omega) (by omega) hcell hd hf hd.blk (by rw [Array.size_setIfInBounds, hd.size]) hsP (.inl rfl) (fun h => by cases h)
          clear hdr hcell hd hf hE2 hblk hD2 hb2 hE0 hT hR hb hbP hown' mB hbw
          generalize w1.setCell ⟨wP.heap.size, 78, none⟩ (.slice (some ⟨wA.heap.size, 0, none⟩) (kep Mk ob n).length n) = ws at *
          generalize (Value.slice (some ⟨wA.heap.size, 0, none⟩) (kep Mk ob n).length n) = kv at hP
          clear hw2 HRL HRB hlD
          have hold := hP.old
          obtain ⟨i0, hi0, hz0, hz1, hz2⟩ := info_parts info25
          go_wp2_with (at_builtin; refine wpList_append_own _ rfl _ _ 23 rfl ws.heap.size 25 i0 (.pointer none) 1 8 Yba.underlying23 hi0 hz0 hz1 hz2 rfl (by decide) (.slice none 0 0) 0 [] rfl (World.ownsRow_nil _ _ _ _) ⟨rO, 0, none⟩ j j ((List.range j).map fun i => pt (oo i)) rfl ?d0T ?d1T ?d2T ?d3T ?d4T (Nat.le_refl _) ?_)
          case d0T => simp
          case d1T =>
            intro u v hv
            have hu : u < j := by have := (List.getElem?_eq_some_iff.1 hv).1; simpa using this
            simp [hu] at hv
            subst hv
            rw [Addr.add_lit, Nat.zero_add]
            exact hold.cell hu
          case d2T =>
            intro v hv
            obtain ⟨i, _, rfl⟩ := List.mem_map.1 hv
            rfl
          case d3T => unfold maxLen; omega
          case d4T => omega
          intro vw wW hownW hgrowW hnilW
          have hbW : Below ws.heap.size ws wW := ⟨hgrowW.os, hgrowW.tape, hgrowW.output, hgrowW.size, fun q hq => hgrowW.block q hq (by simp [Value.ownBlock])⟩
          have hL0 : Lp ws wW (.slice none 0 0) vw (kep Mk ob 0) ((List.range j).map oo ++ del Mk ob 0) := by
            refine ⟨hbW, World.ownsRow_nil _ _ _ _, ?_, fun b hb => by simp [Value.ownBlock] at hb⟩
            rw [show del Mk ob 0 = [] from rfl, List.append_nil, List.length_map, List.length_range, List.map_map]
            exact hownW
          clear hownW hgrowW hnilW hbW hold
          go_wp2_with fail
          go_loopw [15, 16, 17] (fun s15 s16 s17 wr => ∃ i : Nat, i ≤ n ∧ s17 = .int .i64 i ∧ Lp ws wr s15 s16 (kep Mk ob i) ((List.range j).map oo ++ del Mk ob i)) (fun _ _ s17 _ => n - (intOf s17).toNat)
          case atStart => exact ⟨0, Nat.zero_le _, rfl, hL0⟩
          case round =>
            clear hL0
            obtain ⟨i, hi, rfl, hL⟩ := hrel
            have hPr := hP.below hL.bel
            have hsr := hL.bel.size
            by_cases hin : i < n
            · have b2 : (i : Int) < (n : Int) := by omega
              have hmb := hPr.mbox
              obtain ⟨mab, moff, rfl, _, hmc⟩ := hPr.mask i hin
              have hor := hPr.orig.cell hin
              have hdl := del_le Mk ob i
              have hkl := kep_le Mk ob i
              have hWl : ((List.range j).map oo ++ del Mk ob i).length ≤ 1100 := by simp only [List.length_append, List.length_map, List.length_range]; omega
              generalize hW : (List.range j).map oo ++ del Mk ob i = W at hL hWl
              cases hMk : Mk i with
              | true =>
                rw [hMk] at hmc
                go_wp2_with (at_builtin; refine wpList_append_lies _ rfl _ _ 23 rfl ws.heap.size 25 i0 (.pointer none) 1 8 Yba.underlying23 hi0 hz0 hz1 hz2 rfl (by decide) u16 _ _ rfl (hL.ownw.alloc _) ⟨wr.heap.size, 0, none⟩ 1 1 [pt (ob i)] rfl rfl (news_one wr (ob i)) (one_one _) (by decide) ?e0T ?e1T ?e2T (wr.heap.size + 1) (by simp) ?_)
                case e0T => unfold maxLen; omega
                case e1T => omega
                case e2T => simp; omega
                intro g cap w4 hown hgrow hat hlt
                go_wp2
                go_roundw
                case rel =>
                  refine ⟨i + 1, by omega, by go_num, ?_⟩
                  rw [kep_t hMk, del_t hMk, ← List.append_assoc, hW]
                  exact hL.step hown hgrow hat
                case measure => simp [intOf]; omega
              | false =>
                rw [hMk] at hmc
                go_wp2_with (at_builtin; refine wpList_append_lies _ rfl _ _ 23 rfl ws.heap.size 25 i0 (.pointer none) 1 8 Yba.underlying23 hi0 hz0 hz1 hz2 rfl (by decide) u15 _ _ rfl (hL.ownk.alloc _) ⟨wr.heap.size, 0, none⟩ 1 1 [pt (ob i)] rfl rfl (news_one wr (ob i)) (one_one _) (by decide) ?f0T ?f1T ?f2T (wr.heap.size + 1) (by simp) ?_)
                case f0T => unfold maxLen; omega
                case f1T => omega
                case f2T => simp; omega
                intro g cap w4 hown hgrow hat hlt
                go_wp2
                go_roundw
                case rel =>
                  refine ⟨i + 1, by omega, by go_num, ?_⟩
                  rw [kep_f hMk, del_f hMk, hW]
                  exact (hL.symm.step hown hgrow hat).symm
                case measure => simp [intOf]; omega
            · obtain rfl : i = n := by omega
              have hch := hPr.chil
              have hde := hPr.dele
              have hdl := del_le Mk ob i
              have hkl := kep_le Mk ob i
              have hHk := hPr.hkv
              have hHd := hPr.hvd
              have hOk := holds_own hL.ownk
              have hOw := holds_own hL.ownw
              go_wp2_with fail
              refine (same_any _ _ _ (by omega) _ hHk hOk).mono ?_
              rintro e w5 ⟨rfl, q, rfl⟩
              have hde2 := (hPr.drewN q).dele
              have hb5 : Below wr.heap.size wr (wr.drewN q) := ⟨rfl, rfl, rfl, Nat.le_refl _, fun _ _ => rfl⟩
              go_wp2_with fail
              refine (same_any _ _ _ (by simp only [List.length_append, List.length_map, List.length_range]; omega) _ (hHd.below hb5) (hOw.below hb5)).mono ?_
              rintro e w6 ⟨rfl, q2, rfl⟩
              have hbE : Below w.heap.size w (wr.drewN (q + q2)) := hPr.bel.trans ⟨rfl, rfl, rfl, Nat.le_refl _, fun _ _ => rfl⟩
              go_wp2
              go_ret
              exact ⟨rfl, hbE⟩
        | false =>
          obtain ⟨w2, hw2⟩ : ∃ w2, w2 = (wP.alloc (.cells (saC (.slice none 0 0) (.slice ao j cv)) 87)).alloc (.cells (saC (.slice (some ⟨wA.heap.size, 0, none⟩) n n) (.slice none 0 0)) 87) := ⟨_, rfl⟩
          have hE2 : Pre w2 wr.heap.size wA.heap.size wP.heap.size w.heap.size ma n mc Mk ob := by rw [hw2]; exact (hE0.alloc hsP _).alloc (by simp; omega) _
          have hblk : w2.heap[wP.heap.size]? = some (.cells (saC (.slice none 0 0) (.slice ao j cv)) 87 (0, 0)) := by
            rw [hw2, heap_alloc_old _ _ (by simp)]; exact heap_alloc_new wP _
          have hhol : w2.heap[wP.heap.size + 1]? = some (.cells (saC (.slice (some ⟨wA.heap.size, 0, none⟩) n n) (.slice none 0 0)) 87 (0, 0)) := by
            rw [hw2]; have := heap_alloc_new (wP.alloc (.cells (saC (.slice none 0 0) (.slice ao j cv)) 87)) (.cells (saC (.slice (some ⟨wA.heap.size, 0, none⟩) n n) (.slice none 0 0)) 87); simpa using this
          have hD2 : DSt w2 wr.heap.size wP.heap.size (saC (.slice none 0 0) (.slice ao j cv)) (.slice ao j cv) ((List.range j).map oo) :=
            ⟨by rw [saC_set79]; exact hblk, saC_size _ _, by rw [hw2]; exact (hown'.alloc _).alloc _, by rw [hw2]; simp; omega⟩
          have hb2 : Below wr.heap.size wr w2 := by rw [hw2]; exact (hbP.alloc hsP _).alloc (by simp; omega) _
          have hdr := drop6 wr.heap.size wA.heap.size wP.heap.size (wP.heap.size + 1) w.heap.size ma n mc Mk ob _ _ _ _ (by omega) hlD w2 hE2 hD2 hhol (saC_size _ _) (saC_78 _ _)
          rw [hw2] at hdr
          go_wp2_with (refine wpList_build0 rfl 87 rfl _ (build0 _) ?_)
          rw [saC_set78]
          refine hdr.mono ?_
          rintro e w3 ⟨rfl, w1, rfl, hcell, ⟨vd', hd⟩, hf⟩
          rw [← hw2] at hf
          have hP := post_of (rO := rO) (k := j) (oo := oo) (sm := false) (hob := wP.heap.size + 1) hT hR HRL.out.1 HRL.out.2 hb rfl hb2 hE2 hbw (by omega) (by omega) hcell hd hf ((hf.typ _ _ _ _ hhol (by decide) (by omega)).trans hhol) (saC_size _ _) (by omega) (.inr ⟨rfl, by omega, saC_79 _ _, saC_78 _ _⟩) (fun _ => by omega)
          clear hdr hcell hd hf hE2 hblk hhol hD2 hb2 hE0 hT hR hb hbP hown' mB hbw
          generalize w1.setCell ⟨wP.heap.size + 1, 78, none⟩ (.slice (some ⟨wA.heap.size, 0, none⟩) (kep Mk ob n).length n) = ws at *
          generalize (Value.slice (some ⟨wA.heap.size, 0, none⟩) (kep Mk ob n).length n) = kv at hP
          clear hw2 HRL HRB hlD
          have hold := hP.old
          obtain ⟨i0, hi0, hz0, hz1, hz2⟩ := info_parts info25
          go_wp2_with (at_builtin; refine wpList_append_own _ rfl _ _ 23 rfl ws.heap.size 25 i0 (.pointer none) 1 8 Yba.underlying23 hi0 hz0 hz1 hz2 rfl (by decide) (.slice none 0 0) 0 [] rfl (World.ownsRow_nil _ _ _ _) ⟨rO, 0, none⟩ j j ((List.range j).map fun i => pt (oo i)) rfl ?d0F ?d1F ?d2F ?d3F ?d4F (Nat.le_refl _) ?_)
          case d0F => simp
          case d1F =>
            intro u v hv
            have hu : u < j := by have := (List.getElem?_eq_some_iff.1 hv).1; simpa using this
            simp [hu] at hv
            subst hv
            rw [Addr.add_lit, Nat.zero_add]
            exact hold.cell hu
          case d2F =>
            intro v hv
            obtain ⟨i, _, rfl⟩ := List.mem_map.1 hv
            rfl
          case d3F => unfold maxLen; omega
          case d4F => omega
          intro vw wW hownW hgrowW hnilW
          have hbW : Below ws.heap.size ws wW := ⟨hgrowW.os, hgrowW.tape, hgrowW.output, hgrowW.size, fun q hq => hgrowW.block q hq (by simp [Value.ownBlock])⟩
          have hL0 : Lp ws wW (.slice none 0 0) vw (kep Mk ob 0) ((List.range j).map oo ++ del Mk ob 0) := by
            refine ⟨hbW, World.ownsRow_nil _ _ _ _, ?_, fun b hb => by simp [Value.ownBlock] at hb⟩
            rw [show del Mk ob 0 = [] from rfl, List.append_nil, List.length_map, List.length_range, List.map_map]
            exact hownW
          clear hownW hgrowW hnilW hbW hold
          go_wp2_with fail
          go_loopw [15, 16, 17] (fun s15 s16 s17 wr => ∃ i : Nat, i ≤ n ∧ s17 = .int .i64 i ∧ Lp ws wr s15 s16 (kep Mk ob i) ((List.range j).map oo ++ del Mk ob i)) (fun _ _ s17 _ => n - (intOf s17).toNat)
          case atStart => exact ⟨0, Nat.zero_le _, rfl, hL0⟩
          case round =>
            clear hL0
            obtain ⟨i, hi, rfl, hL⟩ := hrel
            have hPr := hP.below hL.bel
            have hsr := hL.bel.size
            by_cases hin : i < n
            · have b2 : (i : Int) < (n : Int) := by omega
              have hmb := hPr.mbox
              obtain ⟨mab, moff, rfl, _, hmc⟩ := hPr.mask i hin
              have hor := hPr.orig.cell hin
              have hdl := del_le Mk ob i
              have hkl := kep_le Mk ob i
              have hWl : ((List.range j).map oo ++ del Mk ob i).length ≤ 1100 := by simp only [List.length_append, List.length_map, List.length_range]; omega
              generalize hW : (List.range j).map oo ++ del Mk ob i = W at hL hWl
              cases hMk : Mk i with
              | true =>
                rw [hMk] at hmc
                go_wp2_with (at_builtin; refine wpList_append_lies _ rfl _ _ 23 rfl ws.heap.size 25 i0 (.pointer none) 1 8 Yba.underlying23 hi0 hz0 hz1 hz2 rfl (by decide) u16 _ _ rfl (hL.ownw.alloc _) ⟨wr.heap.size, 0, none⟩ 1 1 [pt (ob i)] rfl rfl (news_one wr (ob i)) (one_one _) (by decide) ?e0F ?e1F ?e2F (wr.heap.size + 1) (by simp) ?_)
                case e0F => unfold maxLen; omega
                case e1F => omega
                case e2F => simp; omega
                intro g cap w4 hown hgrow hat hlt
                go_wp2
                go_roundw
                case rel =>
                  refine ⟨i + 1, by omega, by go_num, ?_⟩
                  rw [kep_t hMk, del_t hMk, ← List.append_assoc, hW]
                  exact hL.step hown hgrow hat
                case measure => simp [intOf]; omega
              | false =>
                rw [hMk] at hmc
                go_wp2_with (at_builtin; refine wpList_append_lies _ rfl _ _ 23 rfl ws.heap.size 25 i0 (.pointer none) 1 8 Yba.underlying23 hi0 hz0 hz1 hz2 rfl (by decide) u15 _ _ rfl (hL.ownk.alloc _) ⟨wr.heap.size, 0, none⟩ 1 1 [pt (ob i)] rfl rfl (news_one wr (ob i)) (one_one _) (by decide) ?f0F ?f1F ?f2F (wr.heap.size + 1) (by simp) ?_)
                case f0F => unfold maxLen; omega
                case f1F => omega
                case f2F => simp; omega
                intro g cap w4 hown hgrow hat hlt
                go_wp2
                go_roundw
                case rel =>
                  refine ⟨i + 1, by omega, by go_num, ?_⟩
                  rw [kep_f hMk, del_f hMk, hW]
                  exact (hL.symm.step hown hgrow hat).symm
                case measure => simp [intOf]; omega
            · obtain rfl : i = n := by omega
              have hch := hPr.chil
              have hde := hPr.dele
              have hdl := del_le Mk ob i
              have hkl := kep_le Mk ob i
              have hHk := hPr.hkv
              have hHd := hPr.hvd
              have hOk := holds_own hL.ownk
              have hOw := holds_own hL.ownw
              go_wp2_with fail
              refine (same_any _ _ _ (by omega) _ hHk hOk).mono ?_
              rintro e w5 ⟨rfl, q, rfl⟩
              have hde2 := (hPr.drewN q).dele
              have hb5 : Below wr.heap.size wr (wr.drewN q) := ⟨rfl, rfl, rfl, Nat.le_refl _, fun _ _ => rfl⟩
              go_wp2_with fail
              refine (same_any _ _ _ (by simp only [List.length_append, List.length_map, List.length_range]; omega) _ (hHd.below hb5) (hOw.below hb5)).mono ?_
              rintro e w6 ⟨rfl, q2, rfl⟩
              have hbE : Below w.heap.size w (wr.drewN (q + q2)) := hPr.bel.trans ⟨rfl, rfl, rfl, Nat.le_refl _, fun _ _ => rfl⟩
              obtain ⟨hn1, hn2⟩ := hPr.nils rfl
              go_wp2
              go_ret
              exact ⟨rfl, hbE⟩
end Go.Proofs.Ybulkwbk
