import Derived.Test.YbulkvukState
namespace Go.Proofs.Ybulkvuk
open Go.RowKit
set_option linter.unusedVariables false
attribute [local go_sem ↓] Go.wp_at_zero Go.wp_at_succ

set_option maxHeartbeats 4000000 in
theorem newState (w : World) (su sc tb n m : Nat) (av : Option Addr) (cv : Nat) (hn : n ≤ 255) (hm : m ≤ 1000)
    (h0 : w.cell? ⟨su, 0, none⟩ = some (.pointer (some ⟨sc, 0, none⟩))) (h3 : w.cell? ⟨su, 3, none⟩ = some (.pointer (some ⟨tb, 0, none⟩)))
    (hsc : w.cell? ⟨sc, 0, none⟩ = some (.int .i64 n)) (ht : w.cell? ⟨tb, 1, none⟩ = some (.slice av m cv)) :
    Calls Yba.prog 21 #[.pointer (some ⟨su, 0, none⟩)] w fun e w' =>
      ∃ sb pb fb hb db nb rb, e = .returned (.pointer (some ⟨sb, 0, none⟩)) ∧ Part w w' su sb pb fb n m n hb db nb rb := by
  have hmkP : ∀ W : World, (Instr.makeSlice 75 (.int .i64 (n : Int)) (.int .i64 (n : Int))).run Yba.prog W = .ok (.slice (some ⟨W.heap.size, 0, none⟩) n n) (W.alloc (.cells (madeCells #[.slice none 0 0, .slice none 0 0, .slice none 0 0, .slice none 0 0] (n * 4)) 81)) := by
    intro W
    obtain ⟨i, hi, hz, hs, hb⟩ := info_parts info81
    have hr := run_make (P := Yba.prog) W 75 81 i _ Yba.underlying75 hi hz .i64 .i64 n n (by omega) (Int.le_refl _) (by rw [hb]; omega) (by omega)
    simpa only [Int.toNat_natCast, hs, Value.cells] using hr
  have hmkB : ∀ W : World, (Instr.makeSlice 76 (.int .i64 (n : Int)) (.int .i64 (n : Int))).run Yba.prog W = .ok (.slice (some ⟨W.heap.size, 0, none⟩) n n) (W.alloc (.cells (madeCells #[.bool false] n) 4)) :=
    fun W => run_make_row' 76 4 (.bool false) 1 Yba.underlying76 info4 rfl .i64 .i64 n (by omega) (by omega) W
  have l0 := World.block_lt_of_cell? w _ h0
  have l1 := World.block_lt_of_cell? w _ hsc
  have l2 := World.block_lt_of_cell? w _ ht
  simp only at l0 l1 l2
  go_enter Yba.func21, Yba.ntmps21
  go_wp2
  go_cut [3] (fun s3 wx => ∃ sb pb fb, s3 = .pointer (some ⟨sb, 0, none⟩) ∧ Part w wx su sb pb fb n m 0 (fun _ => 0) (fun _ => 0) (fun _ => 0) (fun _ => 0))
  case first =>
    go_region_held3 (fun w' => w'.cell? ⟨su, 0, none⟩ = some (.pointer (some ⟨sc, 0, none⟩)) ∧ w'.cell? ⟨sc, 0, none⟩ = some (.int .i64 n))
      (refine ⟨(Below.cell (B := w.heap.size) (w := w) ?_ l0).trans h0, (Below.cell (B := w.heap.size) (w := w) ?_ l1).trans hsc⟩ <;> (repeat (first | exact Below.refl _ _ | apply Below.drew | (refine Below.alloc ?_ (by simp <;> omega) _))))
      (fail)
    · go_wp2_with fail
      go_meet
      case rel =>
        refine ⟨_, _, _, rfl, part_zero ?_ (heap3 _ _ _ _).2.2 (heap3 _ _ _ _).2.1 (heap3 _ _ _ _).1 (by omega)⟩
        exact ((((Below.refl w.heap.size w).alloc (Nat.le_refl _) _).alloc (by simp) _).alloc (by simp; omega) _).drew
    · go_wp2_with fail
      go_meet
      case rel =>
        refine ⟨_, _, _, rfl, part_zero ?_ (heap3 _ _ _ _).2.2 (heap3 _ _ _ _).1 (heap3 _ _ _ _).2.1 (by omega)⟩
        exact ((((Below.refl w.heap.size w).alloc (Nat.le_refl _) _).alloc (by simp) _).alloc (by simp; omega) _).drew
  case rest =>
    obtain ⟨sb, pb, fb, rfl, hP⟩ := hcut
    clear hmkP hmkB
    have g3 : wc.cell? ⟨su, 3, none⟩ = some (.pointer (some ⟨tb, 0, none⟩)) := (hP.bel.cell (p := ⟨su, 3, none⟩) l0).trans h3
    have gt : wc.cell? ⟨tb, 1, none⟩ = some (.slice av m cv) := (hP.bel.cell (p := ⟨tb, 1, none⟩) l2).trans ht
    have gs : wc.cell? ⟨sb, 2, none⟩ = some (sl pb n) := by simp [World.cell?, hP.blk]
    go_wp2_with (go_at_call 20; go_in)
    go_loopw [35] (fun c wr => ∃ k : Nat, k ≤ n ∧ c = .int .i64 k ∧ ∃ hb db nb rb, Part w wr su sb pb fb n m k hb db nb rb) (fun c _ => n - (intOf c).toNat)
    case atStart => exact ⟨0, Nat.zero_le _, rfl, _, _, _, _, hP⟩
    case round =>
      obtain ⟨k, hk, rfl, hb, db, nb, rb, hQ⟩ := hrel
      by_cases hkn : k < n
      · have hmkI : ∀ W : World, (Instr.makeSlice 27 (.int .i64 (m : Int)) (.int .i64 (m : Int))).run Yba.prog W = .ok (.slice (some ⟨W.heap.size, 0, none⟩) m m) (W.alloc (.cells (madeCells #[.int .i64 0] m) 3)) :=
          fun W => run_make_row' 27 3 (.int .i64 0) 8 Yba.underlying27 info3 rfl .i64 .i64 m (by omega) (by omega) W
        have hmkC : ∀ W : World, (Instr.makeSlice 76 (.int .i64 (m : Int)) (.int .i64 (m : Int))).run Yba.prog W = .ok (.slice (some ⟨W.heap.size, 0, none⟩) m m) (W.alloc (.cells (madeCells #[.bool false] m) 4)) :=
          fun W => run_make_row' 76 4 (.bool false) 1 Yba.underlying76 info4 rfl .i64 .i64 m (by omega) (by omega) W
        have gr : wr.cell? ⟨sb, 2, none⟩ = some (sl pb n) := by simp [World.cell?, hQ.blk]
        have ls := lt_of_heap hQ.blk
        obtain ⟨cur, hc, hcs⟩ := hQ.shp
        have lp := lt_of_heap hc
        have b1 : (k : Int) < (n : Int) := by omega
        clear hP g3 gt gs
        have hps : pb ≠ sb := fun e => by rw [e] at hc; rw [hQ.blk] at hc; simp at hc
        obtain ⟨x0, hx0⟩ : ∃ v, wr.cell? ⟨pb, k * 4, none⟩ = some v := ⟨cur[k * 4]'(by omega), by rw [cell_of_row wr pb _ cur 81 (0, 0) hc]; exact Array.getElem?_eq_getElem _⟩
        obtain ⟨x1, hx1⟩ : ∃ v, wr.cell? ⟨pb, k * 4 + 1, none⟩ = some v := ⟨cur[k * 4 + 1]'(by omega), by rw [cell_of_row wr pb _ cur 81 (0, 0) hc]; exact Array.getElem?_eq_getElem _⟩
        obtain ⟨x2, hx2⟩ : ∃ v, wr.cell? ⟨pb, k * 4 + 1 + 1, none⟩ = some v := ⟨cur[k * 4 + 1 + 1]'(by omega), by rw [cell_of_row wr pb _ cur 81 (0, 0) hc]; exact Array.getElem?_eq_getElem _⟩
        obtain ⟨x3, hx3⟩ : ∃ v, wr.cell? ⟨pb, k * 4 + 1 + 1 + 1, none⟩ = some v := ⟨cur[k * 4 + 1 + 1 + 1]'(by omega), by rw [cell_of_row wr pb _ cur 81 (0, 0) hc]; exact Array.getElem?_eq_getElem _⟩
        have z0 : wr.frozen? ⟨pb, k * 4, none⟩ = false := frozen_of_row wr pb _ cur 81 hc
        have z1 : wr.frozen? ⟨pb, k * 4 + 1, none⟩ = false := frozen_of_row wr pb _ cur 81 hc
        have z2 : wr.frozen? ⟨pb, k * 4 + 1 + 1, none⟩ = false := frozen_of_row wr pb _ cur 81 hc
        have z3 : wr.frozen? ⟨pb, k * 4 + 1 + 1 + 1, none⟩ = false := frozen_of_row wr pb _ cur 81 hc
        have lp1 : pb < wr.heap.size + 1 := by omega
        have lp2 : pb < wr.heap.size + 1 + 1 := by omega
        have lp3 : pb < wr.heap.size + 1 + 1 + 1 := by omega
        clear hc
        go_wp2
        go_region_held3 (fun w' => w'.cell? ⟨sb, 2, none⟩ = some (sl pb n))
          (with_reducible first | exact kp0 ls gr | exact kp1 ls gr _ | exact kp2 ls gr _ _ | exact kp3 ls gr _ _ _ | exact kp5 ls gr hps _ _ _ _ _ _ _ _ _ | exact kp4 ls gr _ _ _ _)
          (fail)
        all_goals
          clear hmkI hmkC hx0 hx1 hx2 hx3 z0 z1 z2 z3
          go_wp2
          go_roundw
          case rel => exact ⟨k + 1, by omega, by go_num, part_round hQ hkn _ _ _ _ (by omega) (by with_reducible first | exact (heap4 _ _ _ _ _).1 | exact (heap4 _ _ _ _ _).2.1 | exact (heap4 _ _ _ _ _).2.2.1 | exact (heap4 _ _ _ _ _).2.2.2) (by with_reducible first | exact (heap4 _ _ _ _ _).1 | exact (heap4 _ _ _ _ _).2.1 | exact (heap4 _ _ _ _ _).2.2.1 | exact (heap4 _ _ _ _ _).2.2.2) (by with_reducible first | exact (heap4 _ _ _ _ _).1 | exact (heap4 _ _ _ _ _).2.1 | exact (heap4 _ _ _ _ _).2.2.1 | exact (heap4 _ _ _ _ _).2.2.2) (by with_reducible first | exact (heap4 _ _ _ _ _).1 | exact (heap4 _ _ _ _ _).2.1 | exact (heap4 _ _ _ _ _).2.2.1 | exact (heap4 _ _ _ _ _).2.2.2)⟩
          case measure => simp [intOf]; omega
      · go_wp2
        obtain rfl : k = n := by omega
        go_ret
        exact ⟨sb, pb, fb, hb, db, nb, rb, rfl, hQ⟩
end Go.Proofs.Ybulkvuk
