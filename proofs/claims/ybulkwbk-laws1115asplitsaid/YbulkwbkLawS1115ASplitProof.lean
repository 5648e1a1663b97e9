import Derived.Test.YbulkwbkSplit
import Derived.Test.YbulkwbkRows
import Derived.WalkKit
import Derived.ProofKit
import Derived.OpenShut
import Derived.Deep.Grids
namespace Go.Proofs.Ybulkwbk.lawS1115ASplit
open Go.ChangeShapes Go.WideShapes Go.ChangeAt Go.RowKit Go.Deep
set_option linter.unusedVariables false

theorem laidOut : laidOutB Yba.prog = true := by kernel_rfl
theorem own : ownKnob Yba.prog.godebug = none := by kernel_rfl

/-- What a slice of bools that came in holds. -/
theorem open_mask {H : Type} {enc : TypeId × Value → H} {w : World} {fuel : Nat} {ad : Option Addr} {len cap : Nat} {x : DataW H × List MemPlace}
    (h : DataW.trod enc Yba.prog w 0 (fun _ => true) true fuel 22 [.slice ad len cap] = some x) :
    len ≤ 9223372036854775807 ∧ ∃ Mk : Nat → Bool, ∀ i, i < len → ∃ mab moff, ad = some ⟨mab, moff, none⟩ ∧ mab < w.heap.size ∧ w.cell? ⟨mab, moff + i, none⟩ = some (.bool (Mk i)) := by
  have ce : Yba.prog.cellsOf 4 = 1 := by kernel_rfl
  rcases open_bools Yba.underlying22 Yba.underlying4 ce h with ⟨h0, _⟩ | ⟨a, l, c, B, h0, hb, hl, hm, _, hx⟩
  · simp at h0
    obtain ⟨rfl, rfl, rfl⟩ := h0
    exact ⟨by omega, fun _ => false, fun i hi => by omega⟩
  · simp at h0
    obtain ⟨rfl, rfl, rfl⟩ := h0
    unfold maxLen at hm
    refine ⟨by omega, B, fun i hi => ?_⟩
    have q0 := hx i (by omega)
    have hsp : a.spot = none := by
      obtain ⟨_, _, _, _, h4⟩ := World.shape?_of_cell? (hx 0 (by omega))
      simpa [Addr.add] using h4
    have hbl := World.block_lt_of_cell? w _ q0
    obtain ⟨b, off, sp⟩ := a
    simp only at hsp
    subst hsp
    rw [Addr.add_lit] at q0 hbl
    exact ⟨b, off, rfl, hbl, q0⟩

set_option maxRecDepth 100000 in
theorem lifted (os : Os) (started : os.Started) (H : Type) (enc : TypeId × Value → H) :
    ReturnsInHanded {} Yba.checked os 3 .any (Rows.lawS1115ASplitSpec.pre6 enc Yba.prog Yba.f3 Rows.lawS1115ASplitRow.domain false) (Rows.lawS1115ASplitSpec.post enc Yba.prog Yba.f3 false true false false) := by
  refine returnsInHanded_of_change (C := Yba.checked) own started (by kernel_rfl) Yba.func3
    (ChangeSpec.witness6 (enc := enc) (C := Yba.checked) false ⟨#[], #[.slice none 0 0, .int .u8 0, .bool false], []⟩ 8 (by kernel_rfl) (by kernel_rfl) (by kernel_rfl) (by kernel_rfl)) ?_
  intro W base args ds gs before hval0 hW hcnd _
  have hval : ∀ (j : Nat) t v, Yba.f3.params[j]? = some t → args[j]? = some v → Value.okWide Yba.prog W .any base t v := hval0
  have hW' := hW
  obtain ⟨p, q, hA0, hV, rfl, hfz, hnd⟩ := hW
  have hA : DataW.TrodAll enc Yba.prog W 0 (fun _ => true) true Yba.f3.params.toList args.toList ds p := hA0
  rw [Yba.params3] at hA hval
  obtain ⟨v0, vs0, d0, ds0, p0, q0, hargs, rfl, rfl, h0, r0⟩ := trodAll_cons hA
  obtain ⟨v1, vs1, d1, ds1, p1, q1, rfl, rfl, rfl, h1, r1⟩ := trodAll_cons r0
  obtain ⟨v2, vs2, d2, ds2, p2, q2, rfl, rfl, rfl, h2, r2⟩ := trodAll_cons r1
  obtain ⟨rfl, rfl, rfl⟩ := trodAll_nil r2
  obtain rfl : args = #[v0, v1, v2] := by cases args; simp_all
  obtain ⟨rfl, rfl⟩ := trodVars_none hV
  obtain ⟨a0, len0, cap0, rfl⟩ := okWide_slice Yba.underlying22 (hval 0 22 v0 rfl rfl)
  have k0 := h0
  have lt0 : ∀ x ∈ p0, x.block < W.heap.size := by obtain ⟨m, hm⟩ := k0; exact DataW.trod_lt m _ _ _ hm
  obtain ⟨hl, Mk, hM⟩ : len0 ≤ 9223372036854775807 ∧ _ := by
    obtain ⟨fuel, hf⟩ := h0
    exact open_mask hf
  obtain ⟨a1, rfl, rfl, rfl, w1⟩ := open_int Yba.underlying5 (hval 1 5 v1 rfl rfl) h1
  obtain ⟨b2, rfl, rfl, rfl⟩ := open_bool Yba.underlying4 (hval 2 4 v2 rfl rfl) h2
  have hb1 := bounds_u8 w1
  clear hA0 hval0
  refine (split_walk a0 len0 cap0 hl a1 hb1.1 hb1.2 b2 Mk W hM).mono fun e W' ⟨he, bel⟩ => ?_
  subst he
  exact ⟨_, rfl, _, _, _, [], _, [], hW', trodAll_mk1 (shut_bool Yba.underlying4 _), (trodAll_cons_mk (Below.trod laidOut (by kernel_rfl) (of_decide_eq_true (by kernel_rfl)) k0 bel lt0) (trodAll_cons_mk (shut_int Yba.underlying5 w1) (trodAll_cons_mk (shut_bool Yba.underlying4 _) trodAll_mk0))), rfl, bel.frame _, fun h => by cases h⟩

theorem over : Rows.lawS1115ASplitRow.holds Yba.pinned (OpenSpec.ofChange Rows.lawS1115ASplitSpec) :=
  OpenClaim.holds_of_wide 3 Yba.f3 rfl rfl rfl rfl rfl rfl rfl ⟨rfl, rfl, rfl, rfl, rfl⟩ rfl rfl rfl rfl rfl (by kernel_rfl) Yba.func3 (by kernel_rfl)
    (of_decide_eq_true (by kernel_rfl)) (by unfold Func.isWrapper; first | (rw [if_pos (by decide +kernel)]; kernel_rfl) | (rw [if_neg (by decide +kernel)]; exact ⟨rfl, rfl⟩))
    (fun os started H enc _ => lifted os started H enc)

/-- The statement. -/
theorem proved : Rows.LawS1115ASplitSaid := over
end Go.Proofs.Ybulkwbk.lawS1115ASplit
