import Derived.Test.YbulkvukRAdd
import Derived.Deep.OwnRows
namespace Go.Proofs.Ybulkvuk
open Go.RowKit
set_option linter.unusedVariables false

/-- How many of the first u processes are not v. -/
def nbC (v u : Nat) : Nat := if v < u then u - 1 else u
def nbX (v u : Nat) : List Value := (List.range (nbC v u)).map fun j => Value.int .i64 (nbr v j : Int)

theorem nbX_ne {v u : Nat} (h : u ≠ v) : nbC v (u + 1) = nbC v u + 1 ∧ nbX v (u + 1) = nbX v u ++ [Value.int .i64 (u : Int)] := by
  have e : nbC v (u + 1) = nbC v u + 1 := by unfold nbC; split <;> split <;> omega
  refine ⟨e, ?_⟩
  have k : nbr v (nbC v u) = u := by
    unfold nbr nbC
    repeat' split
    all_goals omega
  unfold nbX
  rw [e, List.range_succ, List.map_append, List.map_cons, List.map_nil, k]
theorem nbX_eq {v : Nat} : nbC v (v + 1) = nbC v v ∧ nbX v (v + 1) = nbX v v := by
  have e : nbC v (v + 1) = nbC v v := by unfold nbC; split <;> split <;> omega
  exact ⟨e, by unfold nbX; rw [e]⟩
theorem nbX_end {v n : Nat} (h : v < n) : nbC v n = n - 1 := by unfold nbC; rw [if_pos h]

/-- v rows are laid. -/
structure NC (w wr : World) (n v : Nat) : Prop where
  c0 : wr.cell? ⟨w.heap.size + 1, 0, none⟩ = some (.slice (some ⟨w.heap.size, 0, none⟩) n n)
  row : ∀ k, k < n → ∃ x, wr.cell? ⟨w.heap.size, k, none⟩ = some x
  fz : ∀ k, wr.frozen? ⟨w.heap.size, k, none⟩ = false
  done : ∀ k, k < v → ∃ ab c, w.heap.size + 1 < ab ∧ wr.cell? ⟨w.heap.size, k, none⟩ = some (.slice (some ⟨ab, 0, none⟩) (n - 1) c) ∧ ∀ j, j < n - 1 → wr.cell? ⟨ab, j, none⟩ = some (.int .i64 (nbr k j : Int))
  bel : Below w.heap.size w wr
  sz : w.heap.size + 2 ≤ wr.heap.size

/-- In row v, u processes are looked at. -/
structure NI (w wo wr : World) (n v u : Nat) (av : Value) : Prop where
  tr : Tr [w.heap.size] wo wr
  oth : ∀ k, k ≠ v → wr.cell? ⟨w.heap.size, k, none⟩ = wo.cell? ⟨w.heap.size, k, none⟩
  cv : wr.cell? ⟨w.heap.size, v, none⟩ = some av
  fz : ∀ k, wr.frozen? ⟨w.heap.size, k, none⟩ = false
  own : wr.ownsRow wo.heap.size 3 1 av (nbC v u) (nbX v u)

theorem NI.fin {w wo wr : World} {n v : Nat} {av : Value} (ho : NC w wo n v) (hv : v < n) (h2 : 2 ≤ n) (h : NI w wo wr n v n av) : NC w wr n (v + 1) := by
  have so := ho.sz
  have sr := h.tr.size
  have hb : Below w.heap.size w wr := ho.bel.trans (h.tr.below (by omega) (by simp))
  have hown := h.own
  rw [nbX_end hv] at hown
  obtain ⟨g, cap, rfl⟩ : ∃ g cap, av = .slice (some ⟨g, 0, none⟩) (n - 1) cap := by
    rcases hown.2 with ⟨_, h0⟩ | ⟨g, cap, cur, h0, _⟩
    · omega
    · exact ⟨g, cap, h0⟩
  have lg := (hown.lt g rfl).1
  refine ⟨h.tr.cell ho.c0 (by simp), fun k hk => ?_, h.fz, fun k hk => ?_, hb, by omega⟩
  · by_cases hkv : k = v
    · subst hkv; exact ⟨_, h.cv⟩
    · rw [h.oth k hkv]; exact ho.row k hk
  · by_cases hkv : k = v
    · subst hkv
      refine ⟨g, cap, by omega, h.cv, fun j hj => ?_⟩
      rw [hown.cellAt j (by omega)]
      simp [nbX, nbX_end hv, hj]
    · obtain ⟨ab, c, l, q, r⟩ := ho.done k (by omega)
      refine ⟨ab, c, l, by rw [h.oth k hkv]; exact q, fun j hj => h.tr.cell (r j hj) (by simp; omega)⟩

theorem NI.app {w wo wr w1 w2 : World} {n v u g cap : Nat} {av : Value} (h : NI w wo wr n v u av) (hu : u ≠ v) (hso : w.heap.size < wo.heap.size) (hw1 : Below wr.heap.size wr w1)
    (hown : w2.ownsRow wo.heap.size 3 1 (.slice (some ⟨g, 0, none⟩) (nbC v u + 1) cap) (nbC v u + 1) (nbX v u ++ [.int .i64 (u : Int)]))
    (hgrow : w1.grownBy w2 av.ownBlock) : NI w wo (w2.setCell ⟨w.heap.size, v, none⟩ (.slice (some ⟨g, 0, none⟩) (nbC v u + 1) cap)) n v (u + 1) (.slice (some ⟨g, 0, none⟩) (nbC v u + 1) cap) := by
  have sr := h.tr.size
  have s1 := hw1.size
  have pne : ∀ k, k < wo.heap.size → some k ≠ av.ownBlock := fun k hk e => by have := (h.own.lt k e.symm).1; omega
  have blk : ∀ k, k < wo.heap.size → w2.heap[k]? = wr.heap[k]? := fun k hk => (hgrow.block k (by omega) (pne k hk)).trans (hw1.block k (by omega))
  have lg := (hown.lt g rfl).1
  have cc : ∀ k, w2.cell? ⟨w.heap.size, k, none⟩ = wr.cell? ⟨w.heap.size, k, none⟩ := fun k => World.cell?_of_block (a := ⟨w.heap.size, k, none⟩) (blk _ hso)
  refine ⟨?_, fun k hk => ?_, World.cell?_setCell_same _ _ _ ((cc v).trans h.cv), fun k => ?_, ?_⟩
  · refine Tr.setCell ⟨hgrow.os.trans (hw1.os.trans h.tr.os), hgrow.tape.trans (hw1.tape.trans h.tr.tape), hgrow.output.trans (hw1.output.trans h.tr.output), by have := hgrow.size; omega, fun k hk hx => ?_⟩ _ _ _ (by simp)
    rw [blk k hk]; exact h.tr.block k hk hx
  · rw [World.cell?_setCell_other _ _ _ _ (fun e => by simp at e; try omega), cc]; exact h.oth k hk
  · rw [World.frozen?_setCell, World.frozen?_of_block (a := ⟨w.heap.size, k, none⟩) (blk _ hso)]; exact h.fz k
  · rw [(nbX_ne hu).1, (nbX_ne hu).2]
    exact ownsRow_setCell_other hown (by simp [Value.ownBlock]; omega) _

theorem info27 : (Yba.prog.info? 27).map (fun i => (i.zero, i.size, i.bytes)) = some (some (.slice none 0 0), 1, 24) := by kernel_rfl

set_option maxRecDepth 100000 in
set_option maxHeartbeats 1000000 in
/-- NewComplete. -/
theorem newComplete (n : Nat) (h2 : 2 ≤ n) (h8 : n ≤ 8) (w : World) :
    Calls Yba.prog 23 #[.int .i64 n] w fun e w' => e = .returned (.pointer (some ⟨w.heap.size + 1, 0, none⟩)) ∧ NC w w' n n := by
  obtain ⟨i0, hi0, hz0, hz1, hz2⟩ := info_parts info3
  have hmk1 : ∀ W : World, (Instr.makeSlice 28 (.int .i64 (n : Int)) (.int .i64 (n : Int))).run Yba.prog W = .ok (.slice (some ⟨W.heap.size, 0, none⟩) n n) (W.alloc (.cells (madeCells #[.slice none 0 0] n) 27)) :=
    fun W => run_make_row' 28 27 (.slice none 0 0) 24 Yba.underlying28 info27 rfl .i64 .i64 n (by omega) (by omega) W
  have hmk2 : ∀ W : World, (Instr.makeSlice 27 (.int .i64 0) (.int .i64 ((n : Int) - 1))).run Yba.prog W = .ok (.slice (some ⟨W.heap.size, 0, none⟩) 0 (n - 1)) (W.alloc (.cells (madeCells #[.int .i64 0] (n - 1)) 3)) := fun W => by
    have hr := run_make (P := Yba.prog) W 27 3 i0 _ Yba.underlying27 hi0 hz0 .i64 .i64 0 ((n : Int) - 1) (by omega) (by omega) (by rw [hz2]; omega) (by omega)
    rw [hz1, show ((n : Int) - 1).toNat = n - 1 by omega, Nat.mul_one] at hr
    exact hr
  have hsz : (madeCells #[Value.slice none 0 0] n).size = n := size_madeCells _ _
  have hsz2 : (madeCells #[Value.int .i64 0] (n - 1)).size = n - 1 := size_madeCells _ _
  generalize madeCells #[Value.slice none 0 0] n = Z at *
  generalize madeCells #[Value.int .i64 0] (n - 1) = Z2 at *
  have N0 : Hid (∀ x : Value, NC w ((w.alloc (.cells Z 27)).alloc (.cells #[.slice (some ⟨w.heap.size, 0, none⟩) n n, x] 117)) n 0) := fun x => by
    refine ⟨?_, fun k hk => ?_, fun k => ?_, fun k hk => by omega, ((Below.refl _ w).alloc (Nat.le_refl _) _).alloc (by simp) _, by simp⟩
    · rw [World.cell?_alloc_at _ _ _ _ (by simp)]; rfl
    · rw [World.cell?_alloc_past _ _ _ (by simp), World.cell?_alloc_at _ _ _ _ rfl, Array.getElem?_eq_getElem (by omega)]
      exact ⟨_, rfl⟩
    · rw [World.frozen?_alloc_past _ _ _ (by simp)]
      exact frozen_of_row _ _ k _ _ (heap_alloc_new w _)
  go_enter Yba.func23, Yba.ntmps23
  go_wp2
  go_loopw [20] (fun c wr => ∃ v : Nat, v ≤ n ∧ c = .int .i64 v ∧ NC w wr n v) (fun c _ => n - (intOf c).toNat)
  case atStart => exact ⟨0, Nat.zero_le _, rfl, N0.out _⟩
  case round =>
    clear N0 hmk1
    obtain ⟨v, hv, rfl, hN⟩ := hrel
    have c0 := hN.c0
    by_cases hvn : v < n
    · have b1 : (v : Int) < (n : Int) := by omega
      obtain ⟨x, hx⟩ := hN.row v hvn
      have fv := hN.fz v
      have sz := hN.sz
      have l1 : w.heap.size + 1 < wr.heap.size := by omega
      have l0 : w.heap.size < wr.heap.size := by omega
      have I0 : Hid (NI w wr (((wr.setCell ⟨w.heap.size, v, none⟩ (.slice (some ⟨wr.heap.size, 0, none⟩) 0 (n - 1))).alloc (.cells Z2 3)).drew) n v 0 (.slice (some ⟨wr.heap.size, 0, none⟩) 0 (n - 1))) := by
        have sS : (wr.setCell ⟨w.heap.size, v, none⟩ (.slice (some ⟨wr.heap.size, 0, none⟩) 0 (n - 1))).heap.size = wr.heap.size := by simp [World.setCell]
        refine ⟨(Tr.alloc (Tr.setCell (Tr.refl _ wr) _ _ _ (by simp)) _).drew, fun k hk => ?_, ?_, fun k => ?_, ?_⟩
        · show World.cell? (World.alloc _ _) _ = _
          rw [World.cell?_alloc_past _ _ _ (by rw [sS]; exact l0), World.cell?_setCell_other _ _ _ _ (fun e => by simp at e; try omega)]
        · show World.cell? (World.alloc _ _) _ = _
          rw [World.cell?_alloc_past _ _ _ (by rw [sS]; exact l0)]; exact World.cell?_setCell_same _ _ _ hx
        · show World.frozen? (World.alloc _ _) _ = _
          rw [World.frozen?_alloc_past _ _ _ (by rw [sS]; exact l0), World.frozen?_setCell]; exact hN.fz k
        · have := World.ownsRow_made (base := wr.heap.size) (e := 3) (size := 1) (wr.setCell ⟨w.heap.size, v, none⟩ (.slice (some ⟨wr.heap.size, 0, none⟩) 0 (n - 1))) Z2 (n - 1) (by rw [sS]; exact Nat.le_refl _) (by unfold maxLen; omega) (by omega)
          rw [sS] at this
          exact this.drew
      have HN : Hid (NC w wr n v) := hN
      clear hN
      go_wp2
      go_region
      clear c0 hx fv hmk2
      obtain ⟨wo, rfl⟩ : ∃ wo : World, wo = wr := ⟨wr, rfl⟩
      go_wp2
      go_loopw [33] (fun c wi => ∃ u : Nat, u ≤ n ∧ c = .int .i64 u ∧ ∃ av, NI w wo wi n v u av) (fun c _ => n - (intOf c).toNat)
      case atStart => exact ⟨0, Nat.zero_le _, rfl, _, I0.out⟩
      case round =>
        clear I0
        obtain ⟨u, hu, rfl, av, hI⟩ := hrel
        have st := hI.tr.size
        by_cases hun : u < n
        · have b2 : (u : Int) < (n : Int) := by omega
          by_cases huv : u = v
          · subst huv
            have HI : Hid (NI w wo wr n u (u + 1) av) := ⟨hI.tr, hI.oth, hI.cv, hI.fz, by rw [nbX_eq.1, nbX_eq.2]; exact hI.own⟩
            clear hI
            go_wp2
            go_roundw
            case rel => exact ⟨u + 1, by omega, by go_num, _, HI.out⟩
            case measure => simp [intOf]; omega
          · have b3 : ¬ ((u : Int) = (v : Int)) := by omega
            have c0 : wr.cell? ⟨w.heap.size + 1, 0, none⟩ = some (.slice (some ⟨w.heap.size, 0, none⟩) n n) := hI.tr.cell HN.out.c0 (by simp)
            have cv := hI.cv
            have fv := hI.fz v
            obtain ⟨ao, cp, rfl⟩ : ∃ ao cp, av = .slice ao (nbC v u) cp := by
              rcases hI.own.2 with ⟨rfl, h0⟩ | ⟨g, cap, cur, h0, _⟩
              · exact ⟨none, 0, by rw [h0]⟩
              · exact ⟨_, cap, h0⟩
            have hcl : nbC v u ≤ 8 := by unfold nbC; split <;> omega
            have m1 : w.heap.size + 1 < wr.heap.size := by omega
            have m0 : w.heap.size < wr.heap.size := by omega
            have sA : Hid ((wr.alloc (.cells #[.int .i64 (u : Int)] 3)).drew.ownsRow wo.heap.size 3 1 (.slice ao (nbC v u) cp) (nbC v u) (nbX v u)) := (hI.own.alloc _).drew
            have sB : Hid (∀ j x, [Value.int .i64 (u : Int)][j]? = some x → (wr.alloc (.cells #[.int .i64 (u : Int)] 3)).drew.cell? ((⟨wr.heap.size, 0, none⟩ : Addr).add j) = some x) := by
              intro j x hj
              rw [Addr.add_lit, Nat.zero_add]
              show (wr.alloc (.cells #[.int .i64 (u : Int)] 3)).cell? _ = _
              rw [World.cell?_alloc_at _ _ _ _ rfl]
              simpa using hj
            have sC : Hid (∀ x ∈ [Value.int .i64 (u : Int)], x.oneCell' = true) := by intro x hx; simp at hx; subst hx; rfl
            have sD : Hid (nbC v u + 1 ≤ maxLen) := by show nbC v u + 1 ≤ maxLen; unfold maxLen; omega
            have sE : Hid (wo.heap.size ≤ (wr.alloc (.cells #[.int .i64 (u : Int)] 3)).drew.heap.size) := by show wo.heap.size ≤ _; simp; omega
            have sF : Hid ((wr.alloc (.cells #[.int .i64 (u : Int)] 3)).drew.heap.size = wr.heap.size + 1) := by show _ = _; simp
            have sG : Hid (some w.heap.size ≠ (Value.slice ao (nbC v u) cp).ownBlock) := fun e => by have := (hI.own.lt _ e.symm).1; omega
            have sG1 : Hid (some (w.heap.size + 1) ≠ (Value.slice ao (nbC v u) cp).ownBlock) := fun e => by have := (hI.own.lt _ e.symm).1; omega
            have sK : Hid ((nbC v u + 1) * 8 ≤ 140737488355328) := by show _ ≤ _; omega
            have sZ : Hid ((wr.alloc (.cells #[.int .i64 (u : Int)] 3)).drew.frozen? ⟨w.heap.size, v, none⟩ = false) := by
              show (wr.alloc (.cells #[.int .i64 (u : Int)] 3)).frozen? _ = false
              rw [World.frozen?_alloc_past _ _ _ (by exact m0)]; exact fv
            have HI : Hid (NI w wo wr n v u (.slice ao (nbC v u) cp)) := hI
            have HW : Hid (Below wr.heap.size wr (wr.alloc (.cells #[.int .i64 (u : Int)] 3)).drew) := ((Below.refl _ wr).alloc (Nat.le_refl _) _).drew
            clear hI
            generalize hX : nbX v u = X at *
            generalize hC : nbC v u = cn at *
            go_wp2
            go_region_law ((refine step_append_lies _ (by rfl) _ _ _ (by rfl) wo.heap.size 3 i0 _ 1 8 Yba.underlying27 hi0 hz0 hz1 hz2 (by rfl) (by omega) (.slice ao cn cp) cn X (by rfl) sA.out ⟨wr.heap.size, 0, none⟩ 1 1 [.int .i64 (u : Int)] (by rfl) (by rfl) sB.out sC.out (by omega) sD.out sK.out sE.out (wr.heap.size + 1) sF.out ?_; intro g cap w2 hown2 hgrow hat hlt2; have z1 : w2.cell? ⟨w.heap.size, v, none⟩ = some (.slice ao cn cp) := (hgrow.cell_far _ (by simp; omega) sG.out).trans (by simp [cv, World.cell?_alloc_some]); have z2 : w2.cell? ⟨w.heap.size + 1, 0, none⟩ = some (.slice (some ⟨w.heap.size, 0, none⟩) n n) := (hgrow.cell_far _ (by simp; omega) sG1.out).trans (by simp [c0, World.cell?_alloc_some]); have z3 : w2.frozen? ⟨w.heap.size, v, none⟩ = false := (hgrow.frozen_far _ (by simp; omega) sG.out).trans sZ.out))
            all_goals
              subst hX hC
              have HI' : Hid _ := NI.app HI.out huv l0 HW.out hown2 hgrow
              clear hown2 hgrow hat sA sB sC sD sE sF sG sG1 sK sZ HI HW
              go_wp2
              go_roundw
              case rel => exact ⟨u + 1, by omega, by go_num, _, HI'.out⟩
              case measure => simp [intOf]; omega
        · obtain rfl : u = n := by omega
          have b2 : ¬ ((u : Int) < (u : Int)) := by omega
          have HF : Hid (NC w wr u (v + 1)) := hI.fin HN.out hvn h2
          clear hI
          go_wp2
          go_roundw
          case rel => exact ⟨v + 1, by omega, by go_num, HF.out⟩
          case measure => simp [intOf]; omega
    · obtain rfl : v = n := by omega
      have b1 : ¬ ((v : Int) < (v : Int)) := by omega
      have HN : Hid (NC w wr v v) := hN
      clear hN
      go_wp2
      go_ret
      exact ⟨rfl, HN.out⟩
end Go.Proofs.Ybulkvuk
