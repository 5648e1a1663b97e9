import Derived.Test.YbulkvukRForg
namespace Go.Proofs.Ybulkvuk
open Go.RowKit Go.Sort
set_option linter.unusedVariables false

theorem FSt.set2 {w : World} {B scb fb gb : Nat} {G : Gen} {m av : Value} {A : List Ac} (h : FSt w B scb fb gb G m A av) (v : Value) : FSt (w.setCell ⟨fb, 2, none⟩ v) B scb fb gb G m A av := by
  have o : ∀ {b k u}, b ≠ fb ∨ k ≠ 2 → w.cell? ⟨b, k, none⟩ = some u → (w.setCell ⟨fb, 2, none⟩ v).cell? ⟨b, k, none⟩ = some u := fun hb hc => by
    rw [World.cell?_setCell_other _ _ _ _ (fun e => by simp at e; omega)]; exact hc
  refine ⟨h.lb, h.lg, h.ne, o (.inr (by decide)) h.f0, o (.inr (by decide)) h.f1, o (.inr (by decide)) h.f3, by rw [World.frozen?_setCell]; exact h.fz, h.gen.tr ((Tr.refl [fb] w).setCell fb 2 v (by simp)) (by simpa using Ne.symm h.ne), h.gok, ownsRow_setCell_other h.own h.o1 _, h.o1, h.o2, fun a ha tb x hx => ?_⟩
  obtain ⟨t1, t2, t3, t4, t5⟩ := h.tos a ha tb x hx
  exact ⟨t1, t2, t3, t4, o (.inl t2) t5⟩

theorem info9 : (Yba.prog.info? 9).map (fun i => (i.zero, i.size, i.bytes)) = some (some (.string ⟨#[]⟩), 1, 16) := by kernel_rfl

def forgedL : List UInt8 := [102, 111, 114, 103, 101, 100]

/-- In the course of Payload's loop: i payloads are laid behind "forged". -/
structure PSt (w wr : World) (B scb fb gb i : Nat) (S : Scn) (G : Gen) (m : Value) (pv : Value) : Prop where
  st : FSt wr B scb fb gb G m [] (.slice none 0 0)
  c2 : wr.cell? ⟨fb, 2, none⟩ = some pv
  f2 : wr.frozen? ⟨fb, 2, none⟩ = false
  own : wr.ownsRow w.heap.size 9 1 pv (i + 1) ((forgedL :: S.pays.take i).map strV)
  tr : Tr [fb] w wr

/-- Behind one append. -/
theorem pst_step {w wr w1 w2 : World} {B scb fb gb i : Nat} {S : Scn} {G : Gen} {m pv : Value} {p : List UInt8} {g cap : Nat} (h : PSt w wr B scb fb gb i S G m pv) (hp : S.pays[i]? = some p)
    (hlf : fb < w.heap.size) (hlg : gb < w.heap.size) (hw1 : Below wr.heap.size wr w1)
    (hown : w2.ownsRow w.heap.size 9 1 (.slice (some ⟨g, 0, none⟩) (i + 1 + 1) cap) (i + 1 + 1) ((forgedL :: S.pays.take i).map strV ++ [strV p]))
    (hgrow : w1.grownBy w2 pv.ownBlock) :
    PSt w (w2.setCell ⟨fb, 2, none⟩ (.slice (some ⟨g, 0, none⟩) (i + 1 + 1) cap)) B scb fb gb (i + 1) S G m (.slice (some ⟨g, 0, none⟩) (i + 1 + 1) cap) := by
  have s1 := hw1.size
  have st := h.tr.size
  have pne : ∀ k, k < w.heap.size → some k ≠ pv.ownBlock := fun k hk e => by have := (h.own.lt k e.symm).1; omega
  have h1 := h.st.below hw1
  have blk : ∀ k, k < w.heap.size → w2.heap[k]? = w1.heap[k]? := fun k hk => hgrow.block k (by omega) (pne k hk)
  have c1 : ∀ {o v}, w1.cell? ⟨fb, o, none⟩ = some v → w2.cell? ⟨fb, o, none⟩ = some v := fun hc => by rw [World.cell?_of_block (a := ⟨fb, _, none⟩) (blk fb hlf)]; exact hc
  have c2' : w1.cell? ⟨fb, 2, none⟩ = some pv := by rw [hw1.cell (p := ⟨fb, 2, none⟩) (by show fb < _; omega)]; exact h.c2
  have hgt := (hown.lt g rfl).1
  have st2 : FSt w2 B scb fb gb G m [] (.slice none 0 0) :=
    ⟨h1.lb, h1.lg, h1.ne, c1 h1.f0, c1 h1.f1, c1 h1.f3, by rw [World.frozen?_of_block (a := ⟨fb, 3, none⟩) (blk fb hlf)]; exact h1.fz, by
      have k := h1.gen
      have c2 : ∀ k, w2.cell? ⟨gb, k, none⟩ = w1.cell? ⟨gb, k, none⟩ := fun k => World.cell?_of_block (a := ⟨gb, k, none⟩) (blk gb hlg)
      exact ⟨fun i x hx => (c2 i).trans (k.buf i x hx), (c2 _).trans k.c0, (c2 _).trans k.c1, (c2 _).trans k.c2, (c2 _).trans k.c3, (c2 _).trans k.ci, (c2 _).trans k.cn, (c2 _).trans k.cc, fun i => (World.frozen?_of_block (a := ⟨gb, i, none⟩) (blk gb hlg)).trans (k.fz i)⟩, h1.gok, World.ownsRow_nil _ _ _ _, h1.o1, h1.o2, fun a ha => by cases ha⟩
  refine ⟨st2.set2 _, World.cell?_setCell_same _ _ _ (c1 c2'), ?_, ?_, ?_⟩
  · rw [World.frozen?_setCell, World.frozen?_of_block (a := ⟨fb, 2, none⟩) (blk fb hlf), World.frozen?_of_block (a := ⟨fb, 2, none⟩) (hw1.block fb (by omega))]; exact h.f2
  · have e : (forgedL :: S.pays.take (i + 1)).map strV = (forgedL :: S.pays.take i).map strV ++ [strV p] := by
      rw [List.take_add_one, hp]; simp
    rw [e]
    exact ownsRow_setCell_other hown (by simp [Value.ownBlock]; omega) _
  · refine Tr.setCell ⟨hgrow.os.trans (hw1.os.trans h.tr.os), hgrow.tape.trans (hw1.tape.trans h.tr.tape), hgrow.output.trans (hw1.output.trans h.tr.output), by have := hgrow.size; omega, fun k hk hx => ?_⟩ _ _ _ (by simp)
    rw [blk k hk, hw1.block k (by omega)]; exact h.tr.block k hk hx

theorem eql97 (w : World) : (binOp .eql 97 (.slice none 0 0) (.slice none 0 0)).run Yba.prog w = .ok (.bool true) w := by
  have h : ∀ d : Nat, (Op.equalIn (d + 1) 97 (.slice none 0 0) (.slice none 0 0)).run Yba.prog w = .ok true w := fun d => by
    simp [Op.equalIn, run_underlying Yba.underlying97]
  simp only [binOp]
  simp [Op.equal, Op.maxDepth, h 9999]

theorem FSt.trNil {w w' : World} {B scb fb gb : Nat} {G : Gen} {m : Value} {X : List Nat} (h : FSt w B scb fb gb G m [] (.slice none 0 0)) (ht : Tr X w w') (h1 : fb ∉ X) (h2 : gb ∉ X) : FSt w' B scb fb gb G m [] (.slice none 0 0) := by
  have lf := World.block_lt_of_cell? w _ h.f0
  exact ⟨h.lb, h.lg, h.ne, ht.cell h.f0 h1, ht.cell h.f1 h1, ht.cell h.f3 h1, by rw [World.frozen?_of_block (a := ⟨fb, 3, none⟩) (ht.block fb lf h1)]; exact h.fz, h.gen.tr ht h2, h.gok, World.ownsRow_nil _ _ _ _, h.o1, h.o2, fun a ha => by cases ha⟩

theorem rowS_of_own {w : World} {B g n cap : Nat} {zs : List (List UInt8)} (h : w.ownsRow B 9 1 (.slice (some ⟨g, 0, none⟩) n cap) n (zs.map strV)) (hl : zs.length = n) : RowAt encStr w g 0 zs :=
  ⟨fun j x hx => by
    have hj : j < zs.length := (List.getElem?_eq_some_iff.1 hx).1
    rw [Nat.zero_add, h.cellAt j (by omega), List.getElem?_map, hx]; rfl,
   fun k => h.frozenAt k, (h.lt g rfl).2⟩

/-- What Payload draws from. -/
def payL (S : Scn) : List (List UInt8) := Lib.compact (srsL (forgedL :: S.pays))

set_option maxRecDepth 100000 in
set_option maxHeartbeats 2000000 in
/-- (*Forgery).Payload, the first time. -/
theorem payload (B scb fb gb : Nat) (S : Scn) (G : Gen) (m : Value) (w : World) (hS : ScAt w B scb S) (h : FSt w B scb fb gb G m [] (.slice none 0 0)) (hB : B ≤ w.heap.size) (h2 : w.cell? ⟨fb, 2, none⟩ = some (.slice none 0 0)) (hf2 : w.frozen? ⟨fb, 2, none⟩ = false) :
    Calls Yba.prog 29 #[.pointer (some ⟨fb, 0, none⟩)] w fun e w' => e = .returned (strV ((payL S).getD (intV (payL S).length G) [])) ∧ FSt w' B scb fb gb (intG (payL S).length G) m [] (.slice none 0 0) ∧ Tr [gb, fb] w w' := by
  have lf := World.block_lt_of_cell? w _ h.f0
  have lg := World.block_lt_of_cell? w _ h.gen.c0
  simp only at lf lg
  have f0 := h.f0
  obtain ⟨ba, bc, hbc, hel⟩ := hS.bc
  have lsc := hS.lt
  have hp256 := hS.p256
  have HEL : Hid _ := hel
  have HF : Hid _ := h
  have hlb := h.lb
  have hlg := h.lg
  have hne := h.ne
  have fne : fb ≠ scb := by omega
  have heq := eql97
  have lsw : scb < w.heap.size := by omega
  have fne' : scb ≠ fb := by omega
  have P0 : Hid (PSt w ((w.setCell ⟨fb, 2, none⟩ (.slice (some ⟨w.heap.size, 0, none⟩) 1 1)).alloc (.cells #[.string ⟨#[102, 111, 114, 103, 101, 100]⟩] 9)) B scb fb gb 0 S G m (.slice (some ⟨w.heap.size, 0, none⟩) 1 1)) := by
    have sz : (w.setCell ⟨fb, 2, none⟩ (.slice (some ⟨w.heap.size, 0, none⟩) 1 1)).heap.size = w.heap.size := by simp [World.setCell]
    have hb : Below w.heap.size (w.setCell ⟨fb, 2, none⟩ (.slice (some ⟨w.heap.size, 0, none⟩) 1 1)) ((w.setCell ⟨fb, 2, none⟩ (.slice (some ⟨w.heap.size, 0, none⟩) 1 1)).alloc (.cells #[strV forgedL] 9)) := (Below.refl _ _).alloc (by rw [sz]; exact Nat.le_refl _) _
    refine ⟨(h.set2 _).below (by rw [sz]; exact hb), ?_, ?_, ?_, Tr.alloc (Tr.setCell (Tr.refl _ w) _ _ _ (by simp)) _⟩
    · rw [World.cell?_alloc_past _ _ _ (by rw [sz]; exact lf)]; exact World.cell?_setCell_same _ _ _ h2
    · rw [World.frozen?_alloc_past _ _ _ (by rw [sz]; exact lf), World.frozen?_setCell]; exact hf2
    · rw [List.take_zero]
      have := World.ownsRow_lit (base := w.heap.size) (e := 9) (size := 1) (w.setCell ⟨fb, 2, none⟩ (.slice (some ⟨w.heap.size, 0, none⟩) 1 1)) #[strV forgedL] 1 (by rw [sz]; exact Nat.le_refl _) (by decide) rfl
      rwa [sz] at this
  clear h hel hS
  go_enter Yba.func29, Yba.ntmps29
  go_wp2
  clear heq
  go_loopw [22] (fun c wr => ∃ i : Nat, i ≤ S.pays.length ∧ c = .int .i64 i ∧ ∃ pv, PSt w wr B scb fb gb i S G m pv) (fun c _ => S.pays.length - (intOf c).toNat)
  case atStart => exact ⟨0, Nat.zero_le _, rfl, _, P0.out⟩
  case round =>
    clear P0
    obtain ⟨i, hi, rfl, pv, hP⟩ := hrel
    have st := hP.tr.size
    have q2 := hP.c2
    have z2 := hP.f2
    by_cases hil : i < S.pays.length
    · have b1 : (i : Int) < (S.pays.length : Int) := by omega
      obtain ⟨p, hp⟩ : ∃ p, S.pays[i]? = some p := ⟨_, List.getElem?_eq_getElem hil⟩
      obtain ⟨bb, off, rfl, lbb, x, y, z, e0, e1, e2, e3⟩ := HEL.out i p hp
      have bn : bb ∉ [fb] := by simp; omega
      have d0 := hP.tr.cell e0 bn
      have d1 := hP.tr.cell e1 bn
      have d2 := hP.tr.cell e2 bn
      have d3 : wr.cell? ⟨bb, off + i * 4 + 3, none⟩ = some (.string ⟨p.toArray⟩) := hP.tr.cell e3 bn
      clear e0 e1 e2 e3
      obtain ⟨ao, cv, hpv⟩ : ∃ ao cv, pv = .slice ao (i + 1) cv := by
        rcases hP.own.2 with ⟨_, h0⟩ | ⟨g, cap, cur, h0, _⟩
        · omega
        · exact ⟨_, cap, h0⟩
      subst hpv
      obtain ⟨i0, hi0, hz0, hz1, hz2⟩ := info_parts info9
      have lfr : fb < wr.heap.size := by omega
      have sA : Hid (((wr.alloc (.cells #[.int .i64 x, .int .i64 y, .int .i64 z, .string ⟨p.toArray⟩] 54)).alloc (.cells #[.string ⟨p.toArray⟩] 9)).drew.ownsRow w.heap.size 9 1 (.slice ao (i + 1) cv) (i + 1) ((forgedL :: S.pays.take i).map strV)) := ((hP.own.alloc _).alloc _).drew
      have sB : Hid (∀ j u, [Value.string ⟨p.toArray⟩][j]? = some u → ((wr.alloc (.cells #[.int .i64 x, .int .i64 y, .int .i64 z, .string ⟨p.toArray⟩] 54)).alloc (.cells #[.string ⟨p.toArray⟩] 9)).drew.cell? ((⟨wr.heap.size + 1, 0, none⟩ : Addr).add j) = some u) := by
        intro j u hj
        rw [Addr.add_lit, Nat.zero_add]
        show ((wr.alloc _).alloc (.cells #[.string ⟨p.toArray⟩] 9)).cell? _ = _
        rw [World.cell?_alloc_at _ _ _ _ (by simp)]
        simpa using hj
      have sC : Hid (∀ u ∈ [Value.string ⟨p.toArray⟩], u.oneCell' = true) := by intro u hu; simp at hu; subst hu; rfl
      have sD : Hid (i + 1 + 1 ≤ maxLen) := by show i + 1 + 1 ≤ maxLen; unfold maxLen; omega
      have sE : Hid (w.heap.size ≤ ((wr.alloc (.cells #[.int .i64 x, .int .i64 y, .int .i64 z, .string ⟨p.toArray⟩] 54)).alloc (.cells #[.string ⟨p.toArray⟩] 9)).drew.heap.size) := by show w.heap.size ≤ _; simp; omega
      have sF : Hid (((wr.alloc (.cells #[.int .i64 x, .int .i64 y, .int .i64 z, .string ⟨p.toArray⟩] 54)).alloc (.cells #[.string ⟨p.toArray⟩] 9)).drew.heap.size = wr.heap.size + 2) := by show _ = _; simp
      have sG : Hid (some fb ≠ (Value.slice ao (i + 1) cv).ownBlock) := fun e => by have := (hP.own.lt fb e.symm).1; omega
      have sK : Hid ((i + 1 + 1) * 16 ≤ 140737488355328) := by show _ ≤ _; omega
      have sZ : Hid (((wr.alloc (.cells #[.int .i64 x, .int .i64 y, .int .i64 z, .string ⟨p.toArray⟩] 54)).alloc (.cells #[.string ⟨p.toArray⟩] 9)).drew.frozen? ⟨fb, 2, none⟩ = false) := by
        show ((wr.alloc _).alloc (.cells #[.string ⟨p.toArray⟩] 9)).frozen? ⟨fb, 2, none⟩ = false
        rw [World.frozen?_alloc_past _ _ _ (by simp; omega), World.frozen?_alloc_past _ _ _ (by exact lfr)]; exact z2
      have HP : Hid (PSt w wr B scb fb gb i S G m (.slice ao (i + 1) cv)) := hP
      have HW : Hid (Below wr.heap.size wr ((wr.alloc (.cells #[.int .i64 x, .int .i64 y, .int .i64 z, .string ⟨p.toArray⟩] 54)).alloc (.cells #[.string ⟨p.toArray⟩] 9)).drew) := (((Below.refl _ wr).alloc (Nat.le_refl _) _).alloc (by simp) _).drew
      clear hP
      go_wp2
      go_region_law ((refine step_append_lies _ (by rfl) _ _ _ (by rfl) w.heap.size 9 i0 _ 1 16 Yba.underlying97 hi0 hz0 hz1 hz2 (by rfl) (by omega) (.slice ao (i + 1) cv) (i + 1) ((forgedL :: S.pays.take i).map strV) (by rfl) sA.out ⟨wr.heap.size + 1, 0, none⟩ 1 1 [.string ⟨p.toArray⟩] (by rfl) (by rfl) sB.out sC.out (by omega) sD.out sK.out sE.out (wr.heap.size + 2) sF.out ?_; intro g cap w2 hown2 hgrow hat hlt2; have z1 : w2.cell? ⟨fb, 2, none⟩ = some (.slice ao (i + 1) cv) := (hgrow.cell_far _ (by simp; omega) sG.out).trans (by simp [q2, World.cell?_alloc_some]); have z3 : w2.frozen? ⟨fb, 2, none⟩ = false := (hgrow.frozen_far _ (by simp; omega) sG.out).trans sZ.out))
      all_goals
        have HP' : Hid _ := pst_step HP.out hp lf lg HW.out hown2 hgrow
        clear hown2 hgrow hat sA sB sC sD sE sF sG sK sZ HP HW
        go_wp2
        go_roundw
        case rel => exact ⟨i + 1, by omega, by go_num, _, HP'.out⟩
        case measure => simp [intOf]; omega
    · obtain rfl : i = S.pays.length := by omega
      have F3 := hP.st
      have hT := hP.tr
      obtain ⟨g, cp, rfl⟩ : ∃ g cp, pv = .slice (some ⟨g, 0, none⟩) (S.pays.length + 1) cp := by
        rcases hP.own.2 with ⟨_, h0⟩ | ⟨g, cap, cur, h0, _⟩
        · omega
        · exact ⟨g, cap, h0⟩
      have hown := hP.own
      rw [List.take_length] at hown
      obtain ⟨PL, hPL⟩ : ∃ PL, PL = forgedL :: S.pays := ⟨_, rfl⟩
      rw [← hPL] at hown
      have hlen : S.pays.length + 1 = PL.length := by rw [hPL]; rfl
      have HPL : Hid (payL S = Lib.compact (srsL PL)) := by show payL S = _; rw [payL, hPL]
      have hR := rowS_of_own hown hlen.symm
      have lgw := (hown.lt g rfl).1
      have hcp := own_cap hown
      have hpl : PL.length ≤ 257 := by omega
      have hpp : 0 < PL.length := by omega
      have b1 : ¬ ((S.pays.length : Int) < (S.pays.length : Int)) := by omega
      rw [hlen] at q2 hcp
      clear hown hP hlen hPL
      go_wp2_with fail
      refine (sortS g 0 cp PL wr hR (by omega)).mono ?_
      rintro e w3 ⟨rfl, hR3, _, hT3⟩
      have gnf : g ≠ fb := by omega
      have gng : g ≠ gb := by omega
      have q3 := hT3.cell q2 (by simp; omega)
      have z3 : w3.frozen? ⟨fb, 2, none⟩ = false := by rw [World.frozen?_of_block (a := ⟨fb, 2, none⟩) (hT3.block fb (by omega) (by simp; omega))]; exact z2
      have F4 := F3.trNil hT3 (by simp; omega) (by simp; omega)
      have hTw3 : Tr [fb] w w3 := hT.new hT3 lgw
      have s3 := hT3.size
      have el3 := srsL_len PL
      generalize hSL : srsL PL = SL at *
      rw [← el3] at q3 hcp hpl hpp
      clear hR hT3 q2 z2 F3 hT el3
      go_wp2_with fail
      refine (compactS g 0 cp SL w3 hR3 (by omega) hcp).mono ?_
      rintro e w4 ⟨rfl, hR4, hT4⟩
      have hcl : (Lib.compact SL).length ≤ SL.length := Lib.compact_length_le SL
      have hcpos := compact_pos SL hpp
      have q4 := hT4.cell q3 (by simp; omega)
      have z4 : w4.frozen? ⟨fb, 2, none⟩ = false := by rw [World.frozen?_of_block (a := ⟨fb, 2, none⟩) (hT4.block fb (by omega) (by simp; omega))]; exact z3
      have F5 := (F4.trNil hT4 (by simp; omega) (by simp; omega)).set2 (.slice (some ⟨g, 0, none⟩) (Lib.compact SL).length cp)
      have s4 := hT4.size
      have hT5 : Tr [gb, fb] w (w4.setCell ⟨fb, 2, none⟩ (.slice (some ⟨g, 0, none⟩) (Lib.compact SL).length cp)) := Tr.setCell ((hTw3.new hT4 lgw).mono (by simp)) _ _ _ (by simp)
      have hR5 : RowAt encStr (w4.setCell ⟨fb, 2, none⟩ (.slice (some ⟨g, 0, none⟩) (Lib.compact SL).length cp)) g 0 (Lib.compact SL) := hR4.tr ((Tr.refl [fb] w4).setCell fb 2 _ (by simp)) (by simpa using gnf)
      have q5 : (w4.setCell ⟨fb, 2, none⟩ (.slice (some ⟨g, 0, none⟩) (Lib.compact SL).length cp)).cell? ⟨fb, 2, none⟩ = some (.slice (some ⟨g, 0, none⟩) (Lib.compact SL).length cp) := World.cell?_setCell_same _ _ _ q4
      generalize hCL : Lib.compact SL = CL at *
      have HCL : Hid (payL S = CL) := HPL
      have hv := intV_lt (n := CL.length) G (by omega)
      have cv : (w4.setCell ⟨fb, 2, none⟩ (.slice (some ⟨g, 0, none⟩) CL.length cp)).cell? ⟨g, intV CL.length G, none⟩ = some (.string ⟨(CL.getD (intV CL.length G) []).toArray⟩) := by
        have := hR5.cell (intV CL.length G) (CL.getD (intV CL.length G) []) (by rw [List.getD_eq_getElem?_getD, List.getElem?_eq_getElem hv]; rfl)
        rwa [Nat.zero_add] at this
      clear hR3 hT4 hR4 q3 z3 F4 hTw3 HPL hCL hSL hcp hpp hR5
      go_wp2_with fail
      generalize w4.setCell ⟨fb, 2, none⟩ (.slice (some ⟨g, 0, none⟩) CL.length cp) = w5 at *
      have HI := intN fb gb CL.length (by omega) (by omega) G w5.drew hne F5.f1 (F5.gen.drew) F5.gok
      have HF5 : Hid (∀ w', GenAt w' gb (intG CL.length G) → Tr [gb] w5.drew w' → FSt w' B scb fb gb (intG CL.length G) m [] (.slice none 0 0) ∧ Tr [gb, fb] w w') := fun w' hg ht =>
        ⟨F5.step ((Tr.refl _ w5).drew.trans ht) hg (intG_ok F5.gok _), (hT5.drew).trans (ht.mono (by simp))⟩
      have b9 : ((intV CL.length G : Nat) : Int) < (CL.length : Int) := by omega
      have kq5 : Hid (w5.drew.cell? ⟨fb, 2, none⟩ = some (.slice (some ⟨g, 0, none⟩) CL.length cp)) := q5
      have kcv : Hid (w5.drew.cell? ⟨g, intV CL.length G, none⟩ = some (.string ⟨(CL.getD (intV CL.length G) []).toArray⟩)) := cv
      have HV : Hid (strV ((payL S).getD (intV (payL S).length G) []) = .string ⟨(CL.getD (intV CL.length G) []).toArray⟩ ∧ intG (payL S).length G = intG CL.length G) := by
        rw [HCL.out]; exact ⟨rfl, rfl⟩
      clear F5 hT5 HCL
      generalize hvv : intV CL.length G = v at *
      generalize hstr : (CL.getD v []) = sr at *
      generalize hGG : intG CL.length G = GG at *
      go_region_held3 (fun W => W.cell? ⟨fb, 2, none⟩ = some (.slice (some ⟨g, 0, none⟩) CL.length cp) ∧ W.cell? ⟨g, v, none⟩ = some (.string ⟨sr.toArray⟩))
        (first | exact ⟨q5, cv⟩ | (go_keep; done) | exact ⟨hT9.cell kq5.out (by simp; omega), hT9.cell kcv.out (by simp; omega)⟩)
        ((go_at_call 27; refine HI.mono ?_; rintro e w9 ⟨rfl, hG9, hT9⟩))
      go_wp2
      go_ret
      have R := HF5.out _ hG9 hT9
      refine ⟨?_, ?_, R.2⟩
      · rw [HV.out.1]; rfl
      · rw [HV.out.2]; exact R.1
end Go.Proofs.Ybulkvuk
