import Derived.Test.YbulkvukRSort
namespace Go.Proofs.Ybulkvuk
open Go.RowKit
set_option linter.unusedVariables false

theorem row_of_own {w : World} {B g n cap : Nat} {zs : List Int} (h : w.ownsRow B 3 1 (.slice (some ⟨g, 0, none⟩) n cap) n (zs.map (Value.int .i64))) (hl : zs.length = n) : RowAt (Value.int .i64) w g 0 zs :=
  ⟨fun j x hx => by
    have hj : j < zs.length := (List.getElem?_eq_some_iff.1 hx).1
    rw [Nat.zero_add, h.cellAt j (by omega), List.getElem?_map, hx]; rfl,
   fun k => h.frozenAt k, (h.lt g rfl).2⟩

theorem srt_one (x : Int) : srtL [x] = [x] := by simp [srtL]
theorem cmp_one (x : Int) : Lib.compact [x] = [x] := Lib.compact_all _ (fun j hj => by have : j = 0 := by simpa using hj
                                                                                       subst this; simp [Lib.keeps])

theorem own_cap {w : World} {B e size g n cap : Nat} {xs : List Value} (h : w.ownsRow B e size (.slice (some ⟨g, 0, none⟩) n cap) n xs) : n ≤ cap := by
  rcases h.2 with ⟨h0, _⟩ | ⟨g', cap', cur, h0, _, _, hc, _⟩
  · cases h0
  · cases h0; exact hc

set_option maxRecDepth 100000 in
/-- heldSizes at [1]. -/
theorem heldSizes (sb n : Nat) (h1 : 1 ≤ n) (h8 : n ≤ 8) (w : World) (hc : w.cell? ⟨sb, 0, none⟩ = some (.int .i64 1)) :
    Calls Yba.prog 31 #[.slice (some ⟨sb, 0, none⟩) 1 1, .int .i64 n] w fun e w' => ∃ hb c, e = .returned (.slice (some ⟨hb, 0, none⟩) 1 c) ∧ w.heap.size ≤ hb ∧ w'.cell? ⟨hb, 0, none⟩ = some (.int .i64 1) ∧ Below w.heap.size w w' := by
  have ls := World.block_lt_of_cell? w _ hc
  simp only at ls
  obtain ⟨i0, hi0, hz0, hz1, hz2⟩ := info_parts info3
  obtain ⟨wm, hmk, hownm, hgm⟩ := run_make_own (P := Yba.prog) w w.heap.size 27 3 i0 _ 1 Yba.underlying27 hi0 hz0 hz1 .i64 .i64 1 (by rw [hz2]; decide) (by decide) (Nat.le_refl _)
  rw [show ((1 : Nat) : Int) = 1 from rfl] at hmk
  have hbm : Below w.heap.size w wm := ⟨hgm.os, hgm.tape, hgm.output, hgm.size, fun q hq => hgm.block q hq (by simp)⟩
  clear hgm
  go_enter Yba.func31, Yba.ntmps31
  go_wp2
  clear hmk
  go_loopw [5, 13] (fun s5 s13 wr => ∃ i : Nat, i ≤ 1 ∧ s13 = .int .i64 i ∧ Below w.heap.size w wr ∧ ∃ g cap, s5 = .slice (some ⟨g, 0, none⟩) i cap ∧ wr.ownsRow w.heap.size 3 1 (.slice (some ⟨g, 0, none⟩) i cap) i ((List.replicate i (1 : Int)).map (Value.int .i64))) (fun _ s13 _ => 1 - (intOf s13).toNat)
  case atStart => exact ⟨0, Nat.zero_le _, rfl, hbm, _, _, rfl, hownm⟩
  case round =>
    obtain ⟨i, hi, rfl, hb, g, cap, rfl, hown⟩ := hrel
    have hs := hb.size
    by_cases h0 : i = 0
    · subst h0
      have hc' : wr.cell? ⟨sb, 0, none⟩ = some (.int .i64 1) := by rw [hb.cell (p := ⟨sb, 0, none⟩) ls]; exact hc
      have hmn : min (1 : Int) (n : Int) = 1 := by omega
      have sA : Hid ((wr.alloc (.cells #[.int .i64 1] 3)).ownsRow w.heap.size 3 1 (.slice (some ⟨g, 0, none⟩) 0 cap) 0 []) := hown.alloc _
      have sG : Hid (w.heap.size ≤ g) := (hown.lt g rfl).1
      clear hown
      go_wp2_with (at_builtin; refine wpList_append_lies _ rfl _ _ 27 rfl w.heap.size 3 i0 (.int .i64 0) 1 8 Yba.underlying27 hi0 hz0 hz1 hz2 rfl (by decide) (.slice (some ⟨g, 0, none⟩) 0 cap) 0 [] rfl ?c0 ⟨wr.heap.size, 0, none⟩ 1 1 [.int .i64 1] rfl rfl ?c1 ?c2 (by decide) (by decide) (by decide) ?c6 (wr.heap.size + 1) (by simp) ?_)
      case c0 => exact sA.out
      case c1 =>
        intro u v hv
        rw [Addr.add_lit, Nat.zero_add, World.cell?_alloc_at _ _ _ _ rfl]
        simpa using hv
      case c2 => intro v hv; simp at hv; subst hv; rfl
      case c6 => simp; omega
      intro g' cap' w4 hown4 hgrow hat hlt
      go_wp2
      go_roundw
      case rel =>
        refine ⟨1, Nat.le_refl _, by go_num, ?_, g', cap', rfl, hown4⟩
        exact (hb.alloc hs _).grown hgrow (by simp; omega) (fun k hk => by simp [Value.ownBlock] at hk; have := sG.out; omega)
      case measure => simp [intOf]
    · obtain rfl : i = 1 := by omega
      have hR := row_of_own (zs := [1]) hown rfl
      have CAP : Hid ([(1 : Int)].length ≤ cap) := own_cap hown
      have LG : Hid (w.heap.size ≤ g) := (hown.lt g rfl).1
      clear hown
      go_wp2_with fail
      refine (sortI g 0 cap [1] wr hR (by decide)).mono ?_
      rintro e w1 ⟨rfl, hR1, _, hT1⟩
      rw [srt_one] at hR1
      go_wp2_with fail
      refine (compactI g 0 cap [1] w1 hR1 (by decide) ?_).mono ?_
      · exact CAP.out
      rintro e w2 ⟨rfl, hR2, hT2⟩
      rw [cmp_one] at hR2 ⊢
      go_wp2
      go_ret
      refine ⟨g, cap, rfl, LG.out, by have := hR2.cell 0 1 rfl; simpa using this, ?_⟩
      have hx : ∀ x ∈ [g], w.heap.size ≤ x := by simpa using LG.out
      have s1 := hT1.size
      exact (hb.trans (hT1.below hs hx)).trans (hT2.below (by omega) hx)
end Go.Proofs.Ybulkvuk
