import Derived.Test.YbulkvukRBfin
namespace Go.Proofs.Ybulkvuk
open Go.RowKit
set_option linter.unusedVariables false

set_option maxRecDepth 100000 in
set_option maxHeartbeats 2000000 in
theorem build8 (a0 a1 : Nat) (h0 : a0 < 256) (h1 : a1 < 256) (P : List (Nat × List Nat)) (C : List Nat) (pa ca : Option Addr) (pc cc : Nat) (w : World) (hP : PlAt w pa P) (hC : CsAt w ca C) (hl : P.length ≤ 64) (hcl : C.length ≤ 256) (hol : ∀ p ∈ P, p.2.length ≤ 256) :
    Calls Yba.prog 8 #[.int .u8 a0, .int .u8 a1, .slice pa P.length pc, .slice ca C.length cc] w fun e w' => ∃ scb fa oa fc oc, e = .returned (.tuple #[.pointer (some ⟨scb, 0, none⟩), .slice fa P.length fc, .slice oa P.length oc]) ∧ ScAt w' w'.heap.size scb (bldS a0 a1 P C) ∧ TabAt w' w'.heap.size fa oa fc oc (bldS a0 a1 P C) ∧ Below w.heap.size w w' := by
  obtain ⟨i54, hi54, hz54, hs54, hb54⟩ := info_parts info54
  have hmkB : ∀ W : World, (Instr.makeSlice 38 (.int .i64 0) (.int .i64 (C.length : Int))).run Yba.prog W = .ok (.slice (some ⟨W.heap.size, 0, none⟩) 0 C.length) (W.alloc (.cells (madeCells #[.int .i64 0, .int .i64 0, .int .i64 0, .string ⟨#[]⟩] (C.length * 4)) 54)) := fun W => by
    have hr := run_make (P := Yba.prog) W 38 54 i54 _ Yba.underlying38 hi54 hz54 .i64 .i64 0 (C.length : Int) (by omega) (by omega) (by rw [hb54]; omega) (by omega)
    rw [hs54, Int.toNat_natCast] at hr
    exact hr
  have hZ : (madeCells #[Value.int .i64 0, .int .i64 0, .int .i64 0, .string ⟨#[]⟩] (C.length * 4)).size = C.length * 4 := size_madeCells _ _
  generalize madeCells #[Value.int .i64 0, .int .i64 0, .int .i64 0, .string ⟨#[]⟩] (C.length * 4) = Z at *
  obtain ⟨n, hn⟩ : ∃ n, n = a0 % 7 + 2 := ⟨_, rfl⟩
  have EN : Hid ((a0 : Int) % 7 + 2 = (n : Int)) := by show _ = _; omega
  obtain ⟨rr, hrr⟩ : ∃ rr, rr = a1 % 16 + 1 := ⟨_, rfl⟩
  have ER : Hid ((a1 : Int) % 16 + 1 = (rr : Int)) := by show _ = _; omega
  have HN : Hid (n = a0 % 7 + 2) := hn
  have HR : Hid (rr = a1 % 16 + 1) := hrr
  have n2 : 2 ≤ n := by omega
  have n8 : n ≤ 8 := by omega
  have n0 : ¬ ((n : Int) = 0) := by omega
  have r16 : rr ≤ 16 := by omega
  have n0' : ¬ (n = 0) := by omega
  clear hn hrr
  go_enter Yba.func8, Yba.ntmps8
  go_wp2
  rw [EN.out, ER.out]
  have B0 : Hid (BS w (((w.alloc (.cells tabV 86)).alloc (.cells Z 54))) 0 C (.slice (some ⟨w.heap.size + 1, 0, none⟩) 0 C.length) []) := by
    refine ⟨?_, rfl, fun k hk => ?_, ((Below.refl _ w).alloc (Nat.le_refl _) _).alloc (by simp) _, fun g e => by simp [Value.ownBlock] at e; omega⟩
    · have := World.ownsRow_made (base := w.heap.size) (e := 54) (size := 4) (w.alloc (.cells tabV 86)) Z C.length (by simp) (by unfold maxLen; omega) hZ
      simpa using this
    · rw [World.cell?_alloc_past _ _ _ (by simp), World.cell?_alloc_at _ _ _ _ rfl]; exact tab_at k hk
  unfold tabV at B0
  clear hmkB
  go_loopw [14, 42] (fun bv c wr => ∃ i : Nat, i ≤ C.length ∧ c = .int .i64 i ∧ ∃ T, BS w wr i C bv T) (fun _ c _ => C.length - (intOf c).toNat)
  case atStart => exact ⟨0, Nat.zero_le _, rfl, _, B0.out⟩
  case round =>
    clear B0
    obtain ⟨i, hi, rfl, T, hB⟩ := hrel
    by_cases hil : i < C.length
    · have b1 : (i : Int) < (C.length : Int) := by omega
      obtain ⟨c, hc⟩ : ∃ c, C[i]? = some c := ⟨_, List.getElem?_eq_getElem hil⟩
      obtain ⟨hc256, b, off, rfl, lb, q1⟩ := hC i c hc
      have d1 : wr.cell? ⟨b, off + i, none⟩ = some (.int .u8 (c : Int)) := by rw [hB.bel.cell (p := ⟨b, off + i, none⟩) lb]; exact q1
      clear q1
      obtain ⟨k, hk⟩ : ∃ k, k = c % 4 := ⟨_, rfl⟩
      have ew : (IntKind.i64.wrap (c : Int)).tmod 4 = (k : Int) := by rw [show IntKind.i64.wrap (c : Int) = c by rw [IntKind.wrap_i64]; omega, Int.tmod_eq_emod_of_nonneg (by omega)]; omega
      have k4 : (k : Int) < 4 := by omega
      have tk := hB.tab k (by omega)
      unfold strV at tk
      obtain ⟨x, hx⟩ : ∃ x : Int, x = (i : Int).tmod n := ⟨_, rfl⟩
      obtain ⟨y, hy⟩ : ∃ y : Int, y = (IntKind.i64.wrap ((i : Int) + 1)).tmod n := ⟨_, rfl⟩
      obtain ⟨cs, hcs⟩ : ∃ cs : List Value, cs = [.int .i64 1, .int .i64 x, .int .i64 y, .string ⟨(tabL k).toArray⟩] := ⟨_, rfl⟩
      obtain ⟨ao, cp, rfl⟩ : ∃ ao cp, u14 = .slice ao i cp := by
        rcases hB.own.2 with ⟨rfl, h0⟩ | ⟨g, cap, cur, h0, _⟩
        · exact ⟨none, 0, by rw [h0]⟩
        · exact ⟨_, cap, h0⟩
      have sA : Hid ((wr.alloc (.cells cs.toArray 54)).drew.ownsRow w.heap.size 54 4 (.slice ao i cp) i (T.flatMap fun t => [Value.int .i64 1, .int .i64 t.1, .int .i64 t.2.1, strV t.2.2])) := (hB.own.alloc _).drew
      have sB : Hid (∀ j u, cs[j]? = some u → (wr.alloc (.cells cs.toArray 54)).drew.cell? ((⟨wr.heap.size, 0, none⟩ : Addr).add j) = some u) := by
        intro j u hj
        rw [Addr.add_lit, Nat.zero_add]
        show (wr.alloc (.cells cs.toArray 54)).cell? _ = _
        rw [World.cell?_alloc_at _ _ _ _ rfl]
        simpa using hj
      have sC : Hid (∀ u ∈ cs, u.oneCell' = true) := by intro u hu; rw [hcs] at hu; simp at hu; rcases hu with rfl | rfl | rfl | rfl <;> rfl
      have sD : Hid (i + 1 ≤ maxLen) := by show i + 1 ≤ maxLen; unfold maxLen; omega
      have sE : Hid (w.heap.size ≤ (wr.alloc (.cells cs.toArray 54)).drew.heap.size) := by show w.heap.size ≤ _; simp; have := hB.bel.size; omega
      have sF : Hid ((wr.alloc (.cells cs.toArray 54)).drew.heap.size = wr.heap.size + 1) := by show _ = _; simp
      have sK : Hid ((i + 1) * 40 ≤ 140737488355328) := by show _ ≤ _; omega
      have HB : Hid (∀ g cap w2, w2.ownsRow w.heap.size 54 4 (.slice (some ⟨g, 0, none⟩) (i + 1) cap) (i + 1) ((T.flatMap fun t => [Value.int .i64 1, .int .i64 t.1, .int .i64 t.2.1, strV t.2.2]) ++ cs) → (wr.alloc (.cells cs.toArray 54)).drew.grownBy w2 (Value.slice ao i cp).ownBlock → ((Value.slice ao i cp).ownBlock = some g ∨ g = wr.heap.size + 1) → BS w w2 (i + 1) C (.slice (some ⟨g, 0, none⟩) (i + 1) cap) (T ++ [(x, y, tabL k)])) := by
        intro g cap w2 ho hg hat
        have sz := hB.bel.size
        have lt : w.heap.size < wr.heap.size := World.block_lt_of_cell? wr _ tk
        have tt : ∀ k, k < 4 → w2.cell? ⟨w.heap.size, k, none⟩ = some (strV (tabL k)) := fun k hk => by
          rw [hg.cell_far _ (by simp; omega) (fun e => hB.gt _ e.symm rfl)]
          show (wr.alloc _).cell? _ = _
          rw [World.cell?_alloc_past _ _ _ (by exact lt)]; exact hB.tab k hk
        refine ⟨?_, ?_, tt, ?_, ?_⟩
        · rw [List.flatMap_append]; rw [hcs] at ho; simpa [strV] using ho
        · rw [List.map_append, hB.el, List.take_add_one, hc]; simp [hk]
        · exact ((hB.bel.alloc sz _).drew).grown hg (by simp; omega) (fun k hk => (hB.own.lt k hk).1)
        · intro g' e
          simp [Value.ownBlock] at e
          subst e
          rcases hat with e | e
          · exact hB.gt _ e
          · omega
      clear hB
      rw [hcs] at sA sB sC sE sF HB
      clear hcs
      generalize hTT : (T.flatMap fun t => [Value.int .i64 1, .int .i64 t.1, .int .i64 t.2.1, strV t.2.2]) = TT at *
      generalize hst : (tabL k).toArray = st at *
      rw [hx, hy] at sA sB sC sE sF HB
      clear hx hy hTT hk hst
      go_wp2
      go_region_law ((refine step_append_lies _ (by rfl) _ _ _ (by rfl) w.heap.size 54 i54 _ 4 40 Yba.underlying38 hi54 hz54 hs54 hb54 (by rfl) (by omega) (.slice ao i cp) i TT (by rfl) sA.out ⟨wr.heap.size, 0, none⟩ 1 1 _ (by rfl) (by rfl) sB.out sC.out (by omega) sD.out sK.out sE.out (wr.heap.size + 1) sF.out ?_; intro g cap w2 hown2 hgrow hat hlt2))
      all_goals
        have HB' : Hid _ := HB.out _ _ _ hown2 hgrow hat
        clear hown2 hgrow hat sA sB sC sD sE sF sK HB
        go_wp2
        go_roundw
        case rel => exact ⟨i + 1, by omega, by go_num, _, HB'.out⟩
        case measure => simp [intOf]; omega
    · obtain rfl : i = C.length := by omega
      have HB : Hid (BS w wr C.length C u14 T) := hB
      have bw : Below w.heap.size w wr := hB.bel
      clear hB hC
      obtain ⟨i3, hi3, hz3, hs3, hb3⟩ := info_parts info3
      obtain ⟨i27, hi27, hz27, hs27, hb27⟩ := info_parts info27
      obtain ⟨i89, hi89, hz89, hs89, hb89⟩ := info_parts info89
      have mk27 : ∀ (m : Nat), m ≤ 1000 → ∀ W : World, (Instr.makeSlice 27 (.int .i64 0) (.int .i64 (m : Int))).run Yba.prog W = .ok (.slice (some ⟨W.heap.size, 0, none⟩) 0 m) (W.alloc (.cells (madeCells #[.int .i64 0] (m * 1)) 3)) := fun m hm W => by
        have hr := run_make (P := Yba.prog) W 27 3 i3 _ Yba.underlying27 hi3 hz3 .i64 .i64 0 (m : Int) (by omega) (by omega) (by rw [hb3]; omega) (by omega)
        rw [hs3, Int.toNat_natCast] at hr
        exact hr
      have MK27 : Hid _ := mk27
      have hmkF := mk27 P.length (by omega)
      have hmkO : ∀ W : World, (Instr.makeSlice 28 (.int .i64 0) (.int .i64 (P.length : Int))).run Yba.prog W = .ok (.slice (some ⟨W.heap.size, 0, none⟩) 0 P.length) (W.alloc (.cells (madeCells #[.slice none 0 0] (P.length * 1)) 27)) := fun W => by
        have hr := run_make (P := Yba.prog) W 28 27 i27 _ Yba.underlying28 hi27 hz27 .i64 .i64 0 (P.length : Int) (by omega) (by omega) (by rw [hb27]; omega) (by omega)
        rw [hs27, Int.toNat_natCast] at hr
        exact hr
      have hmkP : ∀ W : World, (Instr.makeSlice 39 (.int .i64 0) (.int .i64 (P.length : Int))).run Yba.prog W = .ok (.slice (some ⟨W.heap.size, 0, none⟩) 0 P.length) (W.alloc (.cells (madeCells #[.int .i64 0, .slice none 0 0] (P.length * 2)) 89)) := fun W => by
        have hr := run_make (P := Yba.prog) W 39 89 i89 _ Yba.underlying39 hi89 hz89 .i64 .i64 0 (P.length : Int) (by omega) (by omega) (by rw [hb89]; omega) (by omega)
        rw [hs89, Int.toNat_natCast] at hr
        exact hr
      have sF : (madeCells #[Value.int .i64 0] (P.length * 1)).size = P.length * 1 := size_madeCells _ _
      have sO : (madeCells #[Value.slice none 0 0] (P.length * 1)).size = P.length * 1 := size_madeCells _ _
      have sP : (madeCells #[Value.int .i64 0, .slice none 0 0] (P.length * 2)).size = P.length * 2 := size_madeCells _ _
      clear mk27
      generalize madeCells #[Value.int .i64 0] (P.length * 1) = ZF at *
      generalize madeCells #[Value.slice none 0 0] (P.length * 1) = ZO at *
      generalize madeCells #[Value.int .i64 0, .slice none 0 0] (P.length * 2) = ZP at *
      obtain ⟨wB, rfl⟩ : ∃ wB : World, wB = wr := ⟨wr, rfl⟩
      have P0 : Hid (PS wB (((wB.alloc (.cells ZF 3)).alloc (.cells ZO 27)).alloc (.cells ZP 89)) wB.heap.size n 0 P.length P []) := by
        refine ⟨rfl, ?_, ?_, ?_, fun j t hj => by simp at hj, (((Below.refl _ wB).alloc (Nat.le_refl _) _).alloc (by simp) _).alloc (by simp; omega) _, by simp⟩
        · exact ((World.ownsRow_made (base := wB.heap.size) (e := 3) (size := 1) wB ZF P.length (Nat.le_refl _) (by unfold maxLen; omega) sF).alloc _).alloc _
        · have := (World.ownsRow_made (base := wB.heap.size) (e := 27) (size := 1) (wB.alloc (.cells ZF 3)) ZO P.length (by simp) (by unfold maxLen; omega) sO).alloc (.cells ZP 89)
          simpa using this
        · have := World.ownsRow_made (base := wB.heap.size) (e := 89) (size := 2) ((wB.alloc (.cells ZF 3)).alloc (.cells ZO 27)) ZP P.length (by simp; omega) (by unfold maxLen; omega) sP
          simpa using this
      clear sF sO sP
      go_wp2
      clear hmkF hmkO hmkP
      obtain ⟨F, hF⟩ : ∃ F, F = wB.heap.size := ⟨_, rfl⟩
      have lF : w.heap.size ≤ F := by rw [hF]; exact bw.size
      rw [← hF] at P0 ⊢
      have HFE : Hid (F = wB.heap.size) := hF
      clear hF
      go_loopw [17, 18, 19, 20, 76] (fun s17 s18 s19 s20 s76 wi => ∃ i : Nat, i ≤ P.length ∧ s76 = .int .i64 i ∧ s17 = .slice (some ⟨F, 0, none⟩) i P.length ∧ s18 = .slice (some ⟨F + 1, 0, none⟩) i P.length ∧ s19 = .slice (some ⟨F + 2, 0, none⟩) i P.length ∧ s20 = .int .i64 (prevAt P i : Nat) ∧ ∃ T, PS wB wi F n i P.length P T) (fun _ _ _ _ s76 _ => P.length - (intOf s76).toNat)
      case atStart => exact ⟨0, Nat.zero_le _, rfl, rfl, rfl, rfl, rfl, _, P0.out⟩
      case round =>
        clear P0
        obtain ⟨i, hi, rfl, rfl, rfl, rfl, rfl, T2, hS⟩ := hrel
        by_cases hil : i < P.length
        · have b1' : (i : Int) < (P.length : Int) := by omega
          obtain ⟨⟨g, l⟩, hp⟩ : ∃ p, P[i]? = some p := ⟨_, List.getElem?_eq_getElem hil⟩
          have hll : l.length ≤ 256 := hol (g, l) (List.mem_of_getElem? hp)
          obtain ⟨hg, b, off, rfl, lb, q1, oa, oc, q2, q3⟩ := hP.el i g l hp
          have bel2 : Below w.heap.size w wr := bw.trans (hS.bel.mono lF)
          have d1 : wr.cell? ⟨b, off + i * 2, none⟩ = some (.int .u8 (g : Int)) := by rw [bel2.cell (p := ⟨b, off + i * 2, none⟩) lb]; exact q1
          have d2 : wr.cell? ⟨b, off + i * 2 + 1, none⟩ = some (.slice oa l.length oc) := by rw [bel2.cell (p := ⟨b, off + i * 2 + 1, none⟩) lb]; exact q2
          have Q3 : Hid (∀ (j x : Nat), l[j]? = some x → x < 256 ∧ ∃ ob oo, oa = some ⟨ob, oo, none⟩ ∧ ob < w.heap.size ∧ w.cell? ⟨ob, oo + j, none⟩ = some (.int .u8 (x : Int))) := q3
          have hmkL := MK27.out l.length (by omega)
          have sL : (madeCells #[Value.int .i64 0] (l.length * 1)).size = l.length * 1 := size_madeCells _ _
          generalize madeCells #[Value.int .i64 0] (l.length * 1) = ZL at *
          have HS : Hid (PS wB wr F n i P.length P T2) := hS
          have hsz := hS.sz
          have hfl := frAt_le P i
          have hgp : gapAt P i = g := by unfold gapAt; rw [hp]; rfl
          obtain ⟨f, hf⟩ : ∃ f, f = frAt P i := ⟨_, rfl⟩
          have hpf : prevAt P (i + 1) = f := by rw [hf]; rfl
          have HPF : Hid (prevAt P (i + 1) = f) := hpf
          have HFF : Hid (f = frAt P i) := hf
          obtain ⟨XF, hXF⟩ : ∃ XF, XF = T2.map fun t => Value.int .i64 (t.1 : Int) := ⟨_, rfl⟩
          obtain ⟨XO, hXO⟩ : ∃ XO, XO = T2.map fun t => t.2.1 := ⟨_, rfl⟩
          obtain ⟨XP, hXP⟩ : ∃ XP, XP = T2.flatMap fun t => [Value.int .i64 (t.1 : Int), t.2.2] := ⟨_, rfl⟩
          have KF : Hid (∀ (W : World) (X : List Nat), Tr X wr W → F ∉ X → W.ownsRow F 3 1 (.slice (some ⟨F, 0, none⟩) i P.length) i XF) := fun W X ht hx => by rw [hXF]; exact own_tr hS.fo ht hx
          have KO : Hid (∀ (W : World) (X : List Nat), Tr X wr W → F + 1 ∉ X → W.ownsRow F 27 1 (.slice (some ⟨F + 1, 0, none⟩) i P.length) i XO) := fun W X ht hx => by rw [hXO]; exact own_tr hS.oo ht hx
          have KP : Hid (∀ (W : World) (X : List Nat), Tr X wr W → F + 2 ∉ X → W.ownsRow F 89 2 (.slice (some ⟨F + 2, 0, none⟩) i P.length) i XP) := fun W X ht hx => by rw [hXP]; exact own_tr hS.po ht hx
          have STEP : Hid (∀ (w' : World) (ov cv : Value), Tr [F, F + 1, F + 2] wr w' → w'.ownsRow F 3 1 (.slice (some ⟨F, 0, none⟩) (i + 1) P.length) (i + 1) (XF ++ [.int .i64 (f : Int)]) → w'.ownsRow F 27 1 (.slice (some ⟨F + 1, 0, none⟩) (i + 1) P.length) (i + 1) (XO ++ [ov]) → w'.ownsRow F 89 2 (.slice (some ⟨F + 2, 0, none⟩) (i + 1) P.length) (i + 1) (XP ++ [.int .i64 (f : Int), cv]) → Good w' (F + 3) ov (l.map (· % n)) → Good w' (F + 3) cv (l.map (· % n)) → ∃ T, PS wB w' F n (i + 1) P.length P T) := fun w' ov cv ht h1 h2 h3 h4 h5 => by
            rw [hXF, hf] at h1
            rw [hXO] at h2
            rw [hXP, hf] at h3
            exact ⟨_, hS.step hp ht h1 h2 h3 h4 h5⟩
          have ROOM : Hid (i + 1 ≤ P.length) := hil
          clear q1 q2 q3 hpf hXF hXO hXP
          by_cases hi0 : i = 0
          case' pos =>
            subst hi0
            have FR : Hid ((g : Int) % 3 = (f : Int)) := by
              show _ = _
              rw [hf, frAt, hgp]; omega
            have hpz : prevAt P 0 = 0 := rfl
            rw [hpz]
            rw [Nat.zero_mul, Nat.add_zero] at d1 d2
          case' neg =>
            have FR : Hid ((prevAt P i : Int) + 1 + (g : Int) % 4 = (f : Int)) := by
              show _ = _
              obtain ⟨i', rfl⟩ : ∃ i', i = i' + 1 := ⟨i - 1, by omega⟩
              rw [hf, prevAt, frAt, hgp]; omega
            have bi : ¬ ((i : Int) = 0) := by omega
            have hpl : prevAt P i ≤ 1000 := by
              obtain ⟨i', rfl⟩ : ∃ i', i = i' + 1 := ⟨i - 1, by omega⟩
              have := frAt_le P i'
              rw [prevAt]; omega
            generalize prevAt P i = pv at *
          all_goals
            clear hS hgp hf
            go_wp2
            rw [FR.out]
            clear hmkL d1 d2 FR
            obtain ⟨wo, rfl⟩ : ∃ wo : World, wo = wr := ⟨wr, rfl⟩
            have O0 : Hid (((wo.alloc (.cells #[.int .u8 (g : Int), .slice oa l.length oc] 85)).alloc (.cells ZL 3)).ownsRow wo.heap.size 3 1 (.slice (some ⟨wo.heap.size + 1, 0, none⟩) 0 l.length) 0 []) := by
              have := World.ownsRow_made (base := wo.heap.size) (e := 3) (size := 1) (wo.alloc (.cells #[.int .u8 (g : Int), .slice oa l.length oc] 85)) ZL l.length (by simp) (by unfold maxLen; omega) sL
              show World.ownsRow _ _ _ _ _ _ _
              simpa using this
            have OB : Hid (Below wo.heap.size wo ((wo.alloc (.cells #[.int .u8 (g : Int), .slice oa l.length oc] 85)).alloc (.cells ZL 3))) := ((Below.refl _ wo).alloc (Nat.le_refl _) _).alloc (by simp) _
            clear sL
            go_loopw [24, 102] (fun s24 s102 wk => ∃ k : Nat, k ≤ l.length ∧ s102 = .int .i64 k ∧ s24 = .slice (some ⟨wo.heap.size + 1, 0, none⟩) k l.length ∧ wk.ownsRow wo.heap.size 3 1 (.slice (some ⟨wo.heap.size + 1, 0, none⟩) k l.length) k (((l.take k).map fun x => ((x % n : Nat) : Int)).map (Value.int .i64)) ∧ Below wo.heap.size wo wk) (fun _ s102 _ => l.length - (intOf s102).toNat)
            case atStart => exact ⟨0, Nat.zero_le _, rfl, rfl, O0.out, OB.out⟩
            case round =>
              clear O0 OB
              obtain ⟨k, hk, rfl, rfl, hown, hbk⟩ := hrel
              have lk := (hown.lt _ rfl).2
              have sk := hbk.size
              by_cases hkl : k < l.length
              · have b5 : (k : Int) < (l.length : Int) := by omega
                obtain ⟨x, hx⟩ : ∃ x, l[k]? = some x := ⟨_, List.getElem?_eq_getElem hkl⟩
                obtain ⟨hx256, ob, oo, rfl, lob, q5⟩ := Q3.out k x hx
                have q6 : wr.cell? ⟨ob, oo + k, none⟩ = some (.int .u8 (x : Int)) := by
                  rw [hbk.cell (p := ⟨ob, oo + k, none⟩) (by show ob < _; have := bel2.size; omega), bel2.cell (p := ⟨ob, oo + k, none⟩) lob]; exact q5
                have EX : Hid ((x : Int) % (n : Int) = ((x % n : Nat) : Int)) := (Int.natCast_emod x n).symm
                have HX : Hid (((l.take (k + 1)).map fun x => ((x % n : Nat) : Int)).map (Value.int .i64) = (((l.take k).map fun x => ((x % n : Nat) : Int)).map (Value.int .i64)) ++ [.int .i64 ((x % n : Nat) : Int)]) := by
                  show _ = _
                  rw [List.take_add_one, hx]; simp
                have HO : Hid (World.ownsRow _ _ _ _ _ _ _) := hown
                have HBK : Hid _ := hbk
                clear hown hbk q5 hx
                generalize hY : (((l.take k).map fun x => ((x % n : Nat) : Int)).map (Value.int .i64)) = Y at *
                clear hY
                go_wp2_with (at_builtin; refine wpList_append_own_spare _ rfl _ _ 27 rfl wo.heap.size 3 i3 1 Yba.underlying27 hi3 hs3 (wo.heap.size + 1) k l.length Y rfl (HO.out.alloc _) ⟨wr.heap.size, 0, none⟩ 1 1 [.int .i64 ((x : Int) % (n : Int))] rfl rfl (newsL wr 3 [.int .i64 ((x : Int) % (n : Int))]) (one1 rfl) (by omega) ?_)
                intro w1 hown1 hgrow1
                rw [EX.out, ← HX.out] at hown1
                have HB' : Hid (Below wo.heap.size wo w1) := (HBK.out.alloc sk _).grown hgrow1 (by simp; omega) (fun q hq => by simp at hq; omega)
                have HO' : Hid (World.ownsRow _ _ _ _ _ _ _) := hown1
                clear hown1 hgrow1 HO HBK
                go_wp2
                go_roundw
                case rel => exact ⟨k + 1, by omega, by go_num, rfl, HO'.out, HB'.out⟩
                case measure => simp [intOf]; omega
              · obtain rfl : k = l.length := by omega
                have b5 : ¬ ((l.length : Int) < (l.length : Int)) := by omega
                rw [List.take_length] at hown
                have hR := row_of_own hown (by simp)
                have HR0 : Hid _ := hR
                have HBK : Hid _ := hbk
                clear hown hR hbk bel2
                go_wp2_with (at_builtin; refine wpList_append_own_spare _ rfl _ _ 27 rfl F 3 i3 1 Yba.underlying27 hi3 hs3 F _ P.length XF rfl (KF.out (wr.alloc (.cells #[.int .i64 (f : Int)] 3)) [] ((Tr.of_below [] HBK.out).alloc _) (by simp)) ⟨wr.heap.size, 0, none⟩ 1 1 [.int .i64 (f : Int)] rfl rfl (newsL wr 3 [.int .i64 (f : Int)]) (one1 rfl) ROOM.out ?_)
                intro w1 hownF hg1
                have t01 : Tr [F] wr w1 := ((Tr.refl _ wr).alloc _).trans (Tr.of_grown hg1)
                have t1 : Tr [F] wo w1 := (Tr.of_below [F] HBK.out).trans t01
                have HR1 : Hid (RowAt (Value.int .i64) w1 (wo.heap.size + 1) 0 (l.map fun x => ((x % n : Nat) : Int))) := HR0.out.tr t01 (by simp; omega)
                have HT1 : Hid (Tr [F] wo w1) := t1
                have HF1 : Hid (World.ownsRow _ _ _ _ _ _ _) := hownF
                clear hownF hg1 t01 t1 HR0 HBK KF
                go_wp2_with (at_builtin; refine wpList_append_own_spare _ rfl _ _ 28 rfl F 27 i27 1 Yba.underlying28 hi27 hs27 (F + 1) _ P.length XO rfl (KO.out (w1.alloc (.cells #[.slice (some ⟨wo.heap.size + 1, 0, none⟩) l.length l.length] 27)) [F] (HT1.out.alloc _) (by simp)) ⟨w1.heap.size, 0, none⟩ 1 1 [.slice (some ⟨wo.heap.size + 1, 0, none⟩) l.length l.length] rfl rfl (newsL w1 27 [.slice (some ⟨wo.heap.size + 1, 0, none⟩) l.length l.length]) (one1 rfl) ROOM.out ?_)
                intro w2 hownO hg2
                have t12 : Tr [F + 1] w1 w2 := ((Tr.refl _ w1).alloc _).trans (Tr.of_grown hg2)
                have HT2 : Hid (Tr [F, F + 1] wo w2) := (HT1.out.mono (by simp)).trans (t12.mono (by simp))
                have hR2 : RowAt (Value.int .i64) w2 (wo.heap.size + 1) 0 (l.map fun x => ((x % n : Nat) : Int)) := HR1.out.tr t12 (by simp; omega)
                have HF2 : Hid (w2.ownsRow F 3 1 _ _ (XF ++ [.int .i64 (f : Int)])) := own_tr HF1.out t12 (by simp)
                have HO2 : Hid (World.ownsRow _ _ _ _ _ _ _) := hownO
                clear hownO hg2 t12 HR1 HT1 HF1 KO
                go_wp2_with fail
                refine (clone_int (wo.heap.size + 1) l.length l.length _ w2 (by simp) hll hR2).mono ?_
                rintro e w3 ⟨cv, rfl, hownC, hnn, hb3⟩
                obtain ⟨gc, cpc, rfl⟩ : ∃ gc cpc, cv = .slice (some ⟨gc, 0, none⟩) l.length cpc := by
                  rcases hownC.2 with ⟨e0, _⟩ | ⟨g', cap', cur, e0, _⟩
                  · exact absurd e0 hnn
                  · exact ⟨g', cap', e0⟩
                have lgc := (hownC.lt gc rfl).1
                have s2 := HT2.out.size
                have hRC := row_of_own hownC (by simp)
                have HRC : Hid _ := hRC
                have t23 : Tr [] w2 w3 := Tr.of_below _ hb3
                have HT3 : Hid (Tr [F, F + 1] wo w3) := HT2.out.trans (t23.mono (by simp))
                have HR3 : Hid (RowAt (Value.int .i64) w3 (wo.heap.size + 1) 0 (l.map fun x => ((x % n : Nat) : Int))) := hR2.tr t23 (by simp)
                have HF3 : Hid (w3.ownsRow F 3 1 _ _ (XF ++ [.int .i64 (f : Int)])) := own_tr HF2.out t23 (by simp)
                have HO3 : Hid (w3.ownsRow F 27 1 _ _ (XO ++ [.slice (some ⟨wo.heap.size + 1, 0, none⟩) l.length l.length])) := own_tr HO2.out t23 (by simp)
                clear hownC hnn hb3 hRC t23 hR2 HF2 HO2 HT2
                go_wp2_with (at_builtin; refine wpList_append_own_spare _ rfl _ _ 39 rfl F 89 i89 2 Yba.underlying39 hi89 hs89 (F + 2) _ P.length XP rfl (KP.out (w3.alloc (.cells #[.int .i64 (f : Int), .slice (some ⟨gc, 0, none⟩) l.length cpc] 89)) [F, F + 1] (HT3.out.alloc _) (by simp)) ⟨w3.heap.size, 0, none⟩ 1 1 [.int .i64 (f : Int), .slice (some ⟨gc, 0, none⟩) l.length cpc] rfl rfl (newsL w3 89 [.int .i64 (f : Int), .slice (some ⟨gc, 0, none⟩) l.length cpc]) (one2 rfl rfl) ROOM.out ?_)
                intro w4 hownP hg4
                have t34 : Tr [F + 2] w3 w4 := ((Tr.refl _ w3).alloc _).trans (Tr.of_grown hg4)
                have FIN : Hid _ := STEP.out w4 _ _ ((HT3.out.mono (by simp)).trans (t34.mono (by simp))) (own_tr HF3.out t34 (by simp)) (own_tr HO3.out t34 (by simp)) hownP (good_of_row (HR3.out.tr t34 (by simp; omega)) (by omega)) (good_of_row (HRC.out.tr t34 (by simp; omega)) (by omega))
                clear hownP hg4 t34 HF3 HO3 HR3 HRC STEP HT3 KP
                go_wp2
                go_roundw
                case rel => first | exact ⟨i + 1, ROOM.out, by go_num, rfl, rfl, rfl, by rw [HPF.out], FIN.out⟩ | exact ⟨0 + 1, ROOM.out, by go_num, rfl, rfl, rfl, by rw [HPF.out], FIN.out⟩
                case measure => simp [intOf]; omega
        · obtain rfl : i = P.length := by omega
          have b1' : ¬ ((P.length : Int) < (P.length : Int)) := by omega
          have hnc := newComplete n n2 n8 wr
          obtain ⟨ao, cp, rfl⟩ : ∃ ao cp, u14 = .slice ao C.length cp := by
            rcases HB.out.own.2 with ⟨rfl, e0⟩ | ⟨g, cap, cur, e0, _⟩
            · exact ⟨none, 0, by rw [e0]⟩
            · exact ⟨_, cap, e0⟩
          have HS : Hid (PS wB wr F n P.length P.length P T2) := hS
          clear hS hP
          go_wp2_with fail
          refine hnc.mono ?_
          rintro e wN ⟨rfl, hN⟩
          have HNC : Hid (NC wr wN n n) := hN
          clear hnc hN
          go_wp2
          have FIN : Hid _ := bld_fin a0 a1 HN.out hl hcl hol HB.out HS.out HFE.out HNC.out #[.int .i64 (n : Int), .int .i64 1, .int .i64 (rr : Int), .pointer (some ⟨wr.heap.size + 1, 0, none⟩), .int .i64 0, .int .i64 0, .string ⟨#[]⟩, .nilIface, .slice ao C.length cp, .nilIface, .slice (some ⟨F + 2, 0, none⟩) P.length P.length, .slice none 0 0, .pointer none] rfl (by rw [← HR.out]; rfl) rfl rfl rfl _ rfl
          go_ret3
          exact ⟨_, _, _, _, _, rfl, FIN.out.1, FIN.out.2.1, FIN.out.2.2⟩
end Go.Proofs.Ybulkvuk
