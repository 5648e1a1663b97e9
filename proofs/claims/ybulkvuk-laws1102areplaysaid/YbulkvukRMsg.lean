import Derived.Test.YbulkvukRPay
namespace Go.Proofs.Ybulkvuk
open Go.RowKit
set_option linter.unusedVariables false

/-- What Message draws. -/
def msgS (S : Scn) (G : Gen) : Nat := intV S.n G
def msgT (S : Scn) (G : Gen) : Nat := othV S.n (msgS S G) (intG S.n G)
def msgP (S : Scn) (G : Gen) : List UInt8 := (payL S).getD (intV (payL S).length (intG (S.n - 1) (intG S.n G))) []
def msgG (S : Scn) (G : Gen) : Gen := intG (payL S).length (intG (S.n - 1) (intG S.n G))
def msgV (S : Scn) (G : Gen) : Value := .agg #[.int .i64 (msgS S G : Nat), .int .i64 (msgT S G : Nat), strV (msgP S G)]

theorem size49 : (Yba.prog.info? 49).map (·.size) = some 3 := by kernel_rfl

set_option maxRecDepth 100000 in
set_option maxHeartbeats 1000000 in
/-- (*Forgery).Message, the first time. -/
theorem message (B scb fb gb : Nat) (S : Scn) (G : Gen) (m : Value) (w : World) (hS : ScAt w B scb S) (h : FSt w B scb fb gb G m [] (.slice none 0 0)) (hB : B ≤ w.heap.size) (h2 : w.cell? ⟨fb, 2, none⟩ = some (.slice none 0 0)) (hf2 : w.frozen? ⟨fb, 2, none⟩ = false) :
    Calls Yba.prog 13 #[.pointer (some ⟨fb, 0, none⟩)] w fun e w' => e = .returned (msgV S G) ∧ FSt w' B scb fb gb (msgG S G) m [] (.slice none 0 0) ∧ Tr [gb, fb] w w' := by
  have lf := World.block_lt_of_cell? w _ h.f0
  have lg := World.block_lt_of_cell? w _ h.gen.c0
  simp only at lf lg
  obtain ⟨wa, hwa⟩ : ∃ wa, wa = w.alloc (.cells #[.int .i64 0, .int .i64 0, .string ⟨#[]⟩] 49) := ⟨_, rfl⟩
  have ba : Below w.heap.size w wa := by rw [hwa]; exact (Below.refl _ w).alloc (Nat.le_refl _) _
  have sa : wa.heap.size = w.heap.size + 1 := by rw [hwa]; simp
  have ra : wa.heap[w.heap.size]? = some (.cells #[.int .i64 0, .int .i64 0, .string ⟨#[]⟩] 49 (0, 0)) := by rw [hwa]; exact heap_alloc_new w _
  have Fa := h.below ba
  have Sa := hS.below (ba.mono hB)
  have h2a : wa.cell? ⟨fb, 2, none⟩ = some (.slice none 0 0) := by rw [ba.cell (p := ⟨fb, 2, none⟩) lf]; exact h2
  have hf2a : wa.frozen? ⟨fb, 2, none⟩ = false := by rw [World.frozen?_of_block (a := ⟨fb, 2, none⟩) (ba.block fb lf)]; exact hf2
  have n2 := hS.n2
  have n8 := hS.n8
  have hlg := h.lg
  have hlb := h.lb
  have hne := h.ne
  have c0 := h.f0
  have p0 := hS.proc
  have lsb := hS.lt
  have lsw : scb < w.heap.size := by omega
  have vlt := intV_lt (n := S.n) G (by omega)
  clear h hS h2 hf2
  go_enter Yba.func13, Yba.ntmps13
  go_wp2_with fail
  rw [← hwa]
  clear hwa c0 p0
  refine (intN fb gb S.n (by omega) (by omega) G wa hne Fa.f1 Fa.gen Fa.gok).mono ?_
  rintro e w1 ⟨rfl, hG1, hT1⟩
  have F1 := Fa.step hT1 hG1 (intG_ok Fa.gok _)
  have s1 := hT1.size
  have S1 := Sa.below (hT1.below (by omega) (by simpa using hlg))
  have c1 := F1.f0
  have p1 := S1.proc
  have h21 := hT1.cell h2a (by simpa using hne)
  have hf21 : w1.frozen? ⟨fb, 2, none⟩ = false := by rw [World.frozen?_of_block (a := ⟨fb, 2, none⟩) (hT1.block fb (by omega) (by simpa using hne))]; exact hf2a
  have r1 : w1.heap[w.heap.size]? = some (.cells #[.int .i64 0, .int .i64 0, .string ⟨#[]⟩] 49 (0, 0)) := (hT1.block _ (by omega) (by simp; omega)).trans ra
  have t1 : Tr [gb, fb] w w1 := (Tr.of_below _ ba).trans (hT1.mono (by simp))
  clear hT1 hG1 Fa Sa h2a hf2a ra
  go_wp2_with fail
  refine (intNOther fb gb S.n (intV S.n G) n2 n8 vlt (intG S.n G) w1 hne F1.f1 F1.gen F1.gok).mono ?_
  rintro e w2 ⟨rfl, hG2, hT2⟩
  have F2 := F1.step hT2 hG2 (intG_ok F1.gok _)
  have s2 := hT2.size
  have S2 := S1.below (hT2.below (by omega) (by simpa using hlg))
  have h22 := hT2.cell h21 (by simpa using hne)
  have hf22 : w2.frozen? ⟨fb, 2, none⟩ = false := by rw [World.frozen?_of_block (a := ⟨fb, 2, none⟩) (hT2.block fb (by omega) (by simpa using hne))]; exact hf21
  have r2 : w2.heap[w.heap.size]? = some (.cells #[.int .i64 0, .int .i64 0, .string ⟨#[]⟩] 49 (0, 0)) := (hT2.block _ (by omega) (by simp; omega)).trans r1
  have t2 : Tr [gb, fb] w w2 := t1.trans (hT2.mono (by simp))
  clear hT2 hG2 F1 S1 h21 hf21 r1 t1 c1 p1
  go_wp2_with fail
  refine (payload B scb fb gb S _ m w2 S2 F2 (by omega) h22 hf22).mono ?_
  rintro e w3 ⟨rfl, F3, hT3⟩
  have s3 := hT3.size
  have r3 : w3.heap[w.heap.size]? = some (.cells #[.int .i64 0, .int .i64 0, .string ⟨#[]⟩] 49 (0, 0)) := (hT3.block _ (by omega) (by simp; omega)).trans r2
  have t3 : Tr [gb, fb] w w3 := t2.trans hT3
  have d0 : w3.cell? ⟨w.heap.size, 0, none⟩ = some (.int .i64 0) := by rw [cell_of_row w3 _ 0 _ _ _ r3]; rfl
  have d1 : w3.cell? ⟨w.heap.size, 1, none⟩ = some (.int .i64 0) := by rw [cell_of_row w3 _ 1 _ _ _ r3]; rfl
  have d2 : w3.cell? ⟨w.heap.size, 2, none⟩ = some (.string ⟨#[]⟩) := by rw [cell_of_row w3 _ 2 _ _ _ r3]; rfl
  have z0 := frozen_of_row w3 w.heap.size 0 _ _ r3
  have z1 := frozen_of_row w3 w.heap.size 1 _ _ r3
  have z2 := frozen_of_row w3 w.heap.size 2 _ _ r3
  have HS : Hid (msgV S G = .agg #[.int .i64 (intV S.n G : Nat), .int .i64 (othV S.n (intV S.n G) (intG S.n G) : Nat), strV ((payL S).getD (intV (payL S).length (intG (S.n - 1) (intG S.n G))) [])]) := rfl
  have HG : Hid (msgG S G = intG (payL S).length (intG (S.n - 1) (intG S.n G))) := rfl
  have FIN : Hid (∀ v0 v1 v2, FSt (((w3.setCell ⟨w.heap.size, 0, none⟩ v0).setCell ⟨w.heap.size, 1, none⟩ v1).setCell ⟨w.heap.size, 2, none⟩ v2) B scb fb gb (msgG S G) m [] (.slice none 0 0) ∧ Tr [gb, fb] w (((w3.setCell ⟨w.heap.size, 0, none⟩ v0).setCell ⟨w.heap.size, 1, none⟩ v1).setCell ⟨w.heap.size, 2, none⟩ v2)) := fun v0 v1 v2 =>
    ⟨F3.trNil (X := [w.heap.size]) ((((Tr.refl _ w3).setCell _ _ _ (by simp)).setCell _ _ _ (by simp)).setCell _ _ _ (by simp)) (by simp; omega) (by simp; omega), ((t3.newSet _ _ _ (Nat.le_refl _)).newSet _ _ _ (Nat.le_refl _)).newSet _ _ _ (Nat.le_refl _)⟩
  have R3 : Hid (∀ v0 v1 v2, (((w3.setCell ⟨w.heap.size, 0, none⟩ v0).setCell ⟨w.heap.size, 1, none⟩ v1).setCell ⟨w.heap.size, 2, none⟩ v2).heap[w.heap.size]? = some (.cells #[v0, v1, v2] 49 (0, 0))) := fun v0 v1 v2 => by
    simp [World.setCell, Array.getElem?_modify, r3]
  clear F2 S2 h22 hf22 r2 r3 t2 hT3 F3 t3
  unfold strV
  generalize (payL S).getD (intV (payL S).length (intG (S.n - 1) (intG S.n G))) [] = pp at *
  generalize othV S.n (intV S.n G) (intG S.n G) = tt at *
  generalize intV S.n G = ss at *
  go_wp2
  refine bodyPost_ret (results_cell_row rfl _ _ w.heap.size 49 #[.int .i64 (ss : Int), .int .i64 (tt : Int), .string ⟨pp.toArray⟩] (0, 0) _ rfl (R3.out _ _ _) Yba.underlying49 rfl size49) rfl ?_
  exact ⟨by rw [HS.out]; rfl, (FIN.out _ _ _).1, (FIN.out _ _ _).2⟩
end Go.Proofs.Ybulkvuk
