import Derived.Test.YbulkvukRHeld
namespace Go.Proofs.Ybulkvuk
open Go.RowKit
set_option linter.unusedVariables false

theorem clone_int (g n cap : Nat) (zs : List Int) (w : World) (hl : zs.length = n) (hn : n ≤ 256) (hR : RowAt (Value.int .i64) w g 0 zs) :
    Calls Yba.prog 22 #[.slice (some ⟨g, 0, none⟩) n cap] w fun e w' => ∃ v', e = .returned v' ∧ w'.ownsRow w.heap.size 3 1 v' n (zs.map (Value.int .i64)) ∧ v' ≠ .slice none 0 0 ∧ Below w.heap.size w w' := by
  refine (Any.slices_Clone_int clnLays g 0 n cap zs w (by omega) (by omega) (fun j hj => ?_)).mono ?_
  · have := hR.cell j _ (List.getElem?_eq_getElem hj)
    rw [this, List.getD_eq_getElem?_getD, List.getElem?_eq_getElem hj]; rfl
  · rintro e w' ⟨v', rfl, h1, h2, h3⟩
    rw [List.take_of_length_le (by omega)] at h1
    exact ⟨v', rfl, h1, h2, h3⟩

theorem RowAt.set {w : World} {d : Nat} {L : List Int} (h : RowAt (Value.int .i64) w d 0 L) (i : Nat) (x : Int) (hi : i < L.length) : RowAt (Value.int .i64) (w.setCell ⟨d, i, none⟩ (.int .i64 x)) d 0 (L.set i x) := by
  refine ⟨fun j y hy => ?_, fun k => by rw [World.frozen?_setCell]; exact h.fz k, by simpa [World.setCell] using h.lt⟩
  rw [Nat.zero_add]
  by_cases hj : i = j
  · subst hj
    rw [List.getElem?_set_self hi] at hy
    cases hy
    have := h.cell i _ (List.getElem?_eq_getElem hi)
    rw [Nat.zero_add] at this
    exact World.cell?_setCell_same _ _ _ this
  · rw [List.getElem?_set_ne hj] at hy
    rw [World.cell?_setCell_other _ _ _ _ (fun e => by simp at e; try omega)]
    have := h.cell j y hy
    rwa [Nat.zero_add] at this
theorem RowAt.tr {α : Type} {enc : α → Value} {w w' : World} {d off : Nat} {L : List α} {X : List Nat} (h : RowAt enc w d off L) (ht : Tr X w w') (hx : d ∉ X) : RowAt enc w' d off L := by
  have hb := ht.block d h.lt hx
  exact ⟨fun j x hj => (World.cell?_of_block (a := ⟨d, off + j, none⟩) hb).trans (h.cell j x hj), fun k => (World.frozen?_of_block (a := ⟨d, k, none⟩) hb).trans (h.fz k), Nat.lt_of_lt_of_le h.lt ht.size⟩
theorem RowAt.drew {α : Type} {enc : α → Value} {w : World} {d off : Nat} {L : List α} (h : RowAt enc w d off L) : RowAt enc w.drew d off L := ⟨h.cell, h.fz, h.lt⟩
theorem GenAt.drew {w : World} {gb : Nat} {G : Gen} (h : GenAt w gb G) : GenAt w.drew gb G := h.tr (Tr.refl [] w).drew (by simp)

/-- A frame widened by blocks that are new. -/
theorem Tr.newSet {X : List Nat} {a b : World} (h : Tr X a b) (d o : Nat) (v : Value) (hd : a.heap.size ≤ d) : Tr X a (b.setCell ⟨d, o, none⟩ v) := by
  refine ⟨h.os, h.tape, h.output, by simpa [World.setCell] using h.size, fun i hi hx => ?_⟩
  rw [← h.block i hi hx, World.setCell]
  simp only [Array.getElem?_modify]
  rw [if_neg (by omega)]
theorem Tr.new {X : List Nat} {a b c : World} {d : Nat} (h : Tr X a b) (k : Tr [d] b c) (hd : a.heap.size ≤ d) : Tr X a c :=
  ⟨k.os.trans h.os, k.tape.trans h.tape, k.output.trans h.output, Nat.le_trans h.size k.size, fun i hi hx => (k.block i (Nat.lt_of_lt_of_le hi h.size) (by simp; omega)).trans (h.block i hi hx)⟩

set_option maxRecDepth 100000 in
set_option maxHeartbeats 1000000 in
/-- (*Forgery).split at size 1. -/
theorem split1 (fb gb n g cap : Nat) (h2 : 2 ≤ n) (h8 : n ≤ 8) (G : Gen) (rl : List Nat) (hrl : rl.length = n) (w : World) (hne : fb ≠ gb) (hc : w.cell? ⟨fb, 1, none⟩ = some (.pointer (some ⟨gb, 0, none⟩))) (hG : GenAt w gb G) (hO : GOk G)
    (hR : RowAt (Value.int .i64) w g 0 (rl.map fun x : Nat => (x : Int))) :
    Calls Yba.prog 33 #[.pointer (some ⟨fb, 0, none⟩), .slice (some ⟨g, 0, none⟩) n cap, .int .i64 1] w fun e w' => ∃ tb rest, e = .returned (.tuple #[.slice (some ⟨tb, 0, none⟩) 1 1, rest]) ∧ w.heap.size ≤ tb ∧ w'.cell? ⟨tb, 0, none⟩ = some (.int .i64 ((rl.getD (intV n G) 0 : Nat) : Int)) ∧ GenAt w' gb (intG n G) ∧ Tr [gb] w w' := by
  have lf := World.block_lt_of_cell? w _ hc
  have lg := World.block_lt_of_cell? w _ hG.c0
  simp only at lf lg
  have e1 : ((n : Int) - 0) = (n : Int) := by omega
  go_enter Yba.func33, Yba.ntmps33
  go_wp2_with fail
  refine (clone_int g n cap _ w (by simpa using hrl) (by omega) hR).mono ?_
  rintro e w1 ⟨v', rfl, hown, hnn, hb1⟩
  obtain ⟨d, cp, rfl⟩ : ∃ d cp, v' = .slice (some ⟨d, 0, none⟩) n cp := by
    rcases hown.2 with ⟨h0, _⟩ | ⟨g', cap', cur, h0, _⟩
    · exact absurd h0 hnn
    · exact ⟨g', cap', h0⟩
  have s1 := hb1.size
  have ld := (hown.lt d rfl)
  have hcp := own_cap hown
  have hR1 := row_of_own hown (by simpa using hrl)
  clear hown hnn hR
  have HG1 : Hid (GenAt w1 gb G) := hG.tr (Tr.of_below [] hb1) (by simp)
  have HT1 : Hid (Tr [gb] w w1) := Tr.of_below _ hb1
  have hc1 : w1.cell? ⟨fb, 1, none⟩ = some (.pointer (some ⟨gb, 0, none⟩)) := by rw [hb1.cell (p := ⟨fb, 1, none⟩) lf]; exact hc
  have HO : Hid (GOk G) := hO
  have HR1 : Hid (RowAt (Value.int .i64) w1 d 0 (rl.map fun x : Nat => (x : Int))) := hR1
  have HRL : Hid (rl.length = n) := hrl
  have hv := intV_lt (n := n) G (by omega)
  have dg : d ≠ gb := by omega
  clear hb1 hG hO hR1 hrl hc
  go_wp2_with fail
  go_loopw [14] (fun c wr => (c = .int .i64 0 ∧ wr = w1) ∨ (c = .int .i64 1 ∧ ∃ L : List Int, L.length = n ∧ L[0]? = some (((rl.getD (intV n G) 0 : Nat)) : Int) ∧ RowAt (Value.int .i64) wr d 0 L ∧ GenAt wr gb (intG n G) ∧ Tr [gb] w wr)) (fun c _ => 1 - (intOf c).toNat)
  case atStart => exact .inl ⟨rfl, rfl⟩
  case round =>
    rcases hrel with ⟨rfl, rfl⟩ | ⟨rfl, L, hL, hL0, hRL, hGL, hTL⟩
    · go_wp2_with fail
      refine (intN fb gb n (by omega) (by omega) G _ hne hc1 HG1.out HO.out).mono ?_
      rintro e w2 ⟨rfl, hG2, hT2⟩
      have hR2 := HR1.out.tr hT2 (by simpa using dg)
      generalize hj : intV n G = j at *
      have hxj : (rl.map fun x : Nat => (x : Int))[j]? = some ((rl.getD j 0 : Nat) : Int) := by
        rw [List.getElem?_map, List.getD_eq_getElem?_getD, List.getElem?_eq_getElem (by rw [HRL.out]; exact hv)]; rfl
      have hx0 : (rl.map fun x : Nat => (x : Int))[0]? = some ((rl.getD 0 0 : Nat) : Int) := by
        rw [List.getElem?_map, List.getD_eq_getElem?_getD, List.getElem?_eq_getElem (by rw [HRL.out]; omega)]; rfl
      have cj := hR2.cell j _ hxj
      have c0 := hR2.cell 0 _ hx0
      rw [Nat.zero_add] at cj
      have fj := hR2.fz j
      have f0 := hR2.fz 0
      have b1 : (0 : Int) < (n : Int) := by omega
      have b2 : (j : Int) < (n : Int) := by omega
      generalize hX : rl.getD j 0 = x at *
      generalize hY : rl.getD 0 0 = y at *
      have L2 : Hid (RowAt (Value.int .i64) w2 d 0 (rl.map fun x : Nat => (x : Int)) ∧ GenAt w2 gb (intG n G) ∧ Tr [gb] w2 w2 ∧ Tr [gb] w w2) := ⟨hR2, hG2, Tr.refl _ _, HT1.out.trans hT2⟩
      have HX : Hid (rl.getD (intV n G) 0 = x) := by show _ = _; rw [hj]; exact hX
      have HY : Hid (rl.getD 0 0 = y) := hY
      have HXJ : Hid (j = 0 → x = y) := fun e => by subst e; rw [← hX, ← hY]
      clear hR2 hG2 hT2 hxj hx0 hX hY hj
      by_cases hj0 : j = 0
      · subst hj0
        go_wp2
        go_region
        go_wp2
        go_roundw
        case measure => simp [intOf]
        case rel =>
          obtain ⟨r1, r2, _, r4⟩ := L2.out
          have ll : (rl.map fun x : Nat => (x : Int)).length = n := by rw [List.length_map]; exact HRL.out
          refine .inr ⟨rfl, ((rl.map fun x : Nat => (x : Int)).set 0 y).set 0 y, by simp [HRL.out], ?_, ((r1.set 0 y (by omega)).set 0 y (by rw [List.length_set]; omega)).drew, ?_, ((r4.newSet d 0 _ ld.1).newSet d 0 _ ld.1).drew⟩
          · rw [List.getElem?_set_self (by rw [List.length_set]; omega), HX.out, HXJ.out trivial]
          · exact ((r2.tr ((Tr.refl [d] w2).setCell d 0 _ (by simp)) (by simp; omega)).tr ((Tr.refl [d] _).setCell d 0 _ (by simp)) (by simp; omega)).drew
      · go_wp2
        go_region
        go_wp2
        go_roundw
        case measure => simp [intOf]
        case rel =>
          obtain ⟨r1, r2, _, r4⟩ := L2.out
          have ll : (rl.map fun x : Nat => (x : Int)).length = n := by rw [List.length_map]; exact HRL.out
          refine .inr ⟨rfl, ((rl.map fun x : Nat => (x : Int)).set 0 x).set j y, by simp [HRL.out], ?_, ((r1.set 0 x (by omega)).set j y (by rw [List.length_set]; omega)).drew, ?_, ((r4.newSet d 0 _ ld.1).newSet d j _ ld.1).drew⟩
          · rw [List.getElem?_set_ne hj0, List.getElem?_set_self (by omega), HX.out]
          · exact ((r2.tr ((Tr.refl [d] w2).setCell d 0 _ (by simp)) (by simp; omega)).tr ((Tr.refl [d] _).setCell d j _ (by simp)) (by simp; omega)).drew
    · have b1 : (1 : Int) ≤ (n : Int) := by omega
      have b2 : (1 : Int) ≤ (cp : Int) := by omega
      have b3 : (n : Int) ≤ (cp : Int) := by omega
      have b4 : ¬ (cp = 1) := by omega
      go_wp2_with fail
      go_quiet (fail)
      obtain ⟨x, tl, rfl⟩ : ∃ x tl, L = x :: tl := by
        cases L with
        | nil => simp at hL0
        | cons x tl => exact ⟨x, tl, rfl⟩
      simp at hL0 hL
      have hRa : RowAt (Value.int .i64) (wr.drewN nq) d 0 [x] := ⟨fun j y hy => hRL.cell j y (by cases j with | zero => exact hy | succ j => simp at hy), hRL.fz, hRL.lt⟩
      have hGq : GenAt (wr.drewN nq) gb (intG n G) := hGL.tr ((Tr.refl [] wr).drewN nq) (by simp)
      have hTq : Tr [gb] w (wr.drewN nq) := hTL.drewN nq
      have hRb : ∀ j y, tl[j]? = some y → (wr.drewN nq).cell? ⟨d, 1 + j, none⟩ = some (.int .i64 y) := fun j y hy => by
        have := hRL.cell (j + 1) y hy
        rwa [show 0 + (j + 1) = 1 + j by omega] at this
      have HB : Hid _ := hRb
      clear hRb hRL hGL hTL
      generalize wr.drewN nq = wq at *
      go_wp2_with fail
      refine (sortI d 0 1 [x] wq hRa (by simp)).mono ?_
      rintro e w3 ⟨rfl, hR3, hoth3, hT3⟩
      rw [srt_one] at hR3
      have hRt : RowAt (Value.int .i64) w3 d 1 tl := ⟨fun j y hy => by rw [hoth3 (1 + j) (.inr (by simp))]; exact HB.out j y hy, hR3.fz, hR3.lt⟩
      have etl : n - 1 = tl.length := by omega
      go_wp2_with fail
      refine (sortI d 1 (cp - 1) tl w3 hRt (by omega)).mono ?_
      rintro e w4 ⟨rfl, hR4, hoth4, hT4⟩
      go_wp2
      go_ret2
      refine ⟨d, _, rfl, ld.1, ?_, (hGq.tr hT3 (by simp; omega)).tr hT4 (by simp; omega), (hTq.new hT3 ld.1).new hT4 ld.1⟩
      rw [hoth4 0 (.inl (by decide)), List.getD_eq_getElem?_getD, ← hL0]
      have := hR3.cell 0 x rfl
      simpa using this
end Go.Proofs.Ybulkvuk
