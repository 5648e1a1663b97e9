import Derived.Test.YbulkvukRInit
import Derived.Deep.MidRow
namespace Go.Proofs.Ybulkvuk
open Go.RowKit
set_option linter.unusedVariables false

/-- The generator's zero block. -/
def zGen : Array Value := #[.int .u64 0, .int .u64 0, .int .u64 0, .int .u64 0, .int .u64 0, .int .u64 0, .int .u64 0, .int .u64 0, .int .u64 0, .int .u64 0, .int .u64 0, .int .u64 0, .int .u64 0, .int .u64 0, .int .u64 0, .int .u64 0, .int .u64 0, .int .u64 0, .int .u64 0, .int .u64 0, .int .u64 0, .int .u64 0, .int .u64 0, .int .u64 0, .int .u64 0, .int .u64 0, .int .u64 0, .int .u64 0, .int .u64 0, .int .u64 0, .int .u64 0, .int .u64 0, .int .u64 0, .int .u64 0, .int .u64 0, .int .u64 0, .int .u32 0, .int .u32 0, .int .u32 0, .int .u8 0, .int .u8 0, .int .u8 0, .int .u8 0, .int .u8 0, .int .u8 0, .int .u8 0, .int .u8 0, .int .i64 0]
theorem zGen_size : zGen.size = 48 := rfl

theorem size91 : (Yba.prog.info? 91).map (·.size) = some 32 := by kernel_rfl

set_option maxRecDepth 100000 in
set_option maxHeartbeats 400000 in
/-- NewChaCha8, its walk. -/
theorem newChaW (cs : List Value) (hcs : cs.length = 32) (w W2 : World) (hW2 : W2 = (w.alloc (.cells cs.toArray 91)).alloc (.cells zGen 126)) (R : World → Prop)
    (HI : Hid (Calls Yba.prog 41 #[.pointer (some ⟨w.heap.size + 1, 0, none⟩), .agg cs.toArray] W2.drew fun e w' => e = .returned (.tuple #[]) ∧ R w'))
    (hr : W2.rangeAt w.heap.size 0 cs) (HR : Hid (∀ w', R w' → w'.rangeAt w.heap.size 0 cs)) :
    Calls Yba.prog 25 #[.agg cs.toArray] w fun e w' => e = .returned (.pointer (some ⟨w.heap.size + 1, 0, none⟩)) ∧ R w' := by
  have hu := Yba.underlying91
  have hi : (Yba.prog.info? 91).map (·.size) = some cs.length := by rw [hcs]; exact size91
  clear hcs
  unfold zGen at hW2
  go_enter Yba.func25, Yba.ntmps25
  go_wp2
  rw [← hW2]
  clear hW2
  go_region_held3 (fun W => W.rangeAt w.heap.size 0 cs) (first | exact hr | (go_keep; done) | assumption) ((go_at_call 41; refine HI.out.mono ?_; rintro e w9 ⟨rfl, hR⟩; have hq := HR.out _ hR))
  go_wp2
  go_ret
  exact ⟨rfl, hR⟩

/-- NewChaCha8. -/
theorem newCha (K : List UInt8) (hK : K.length = 32) (w : World) :
    Calls Yba.prog 25 #[.agg (K.map byV).toArray] w fun e w' => e = .returned (.pointer (some ⟨w.heap.size + 1, 0, none⟩)) ∧ GenAt w' (w.heap.size + 1) (initG (le8 K 0) (le8 K 8) (le8 K 16) (le8 K 24)) ∧ Below w.heap.size w w' := by
  obtain ⟨W2, hW2⟩ : ∃ W2, W2 = (w.alloc (.cells (K.map byV).toArray 91)).alloc (.cells zGen 126) := ⟨_, rfl⟩
  have s2 : W2.heap.size = w.heap.size + 2 := by rw [hW2]; simp
  have hg : W2.heap[w.heap.size + 1]? = some (.cells zGen 126 (0, 0)) := by
    rw [hW2]; have := heap_alloc_new (w.alloc (.cells (K.map byV).toArray 91)) (.cells zGen 126); simpa using this
  have hb : Below w.heap.size w W2 := by rw [hW2]; exact ((Below.refl _ w).alloc (Nat.le_refl _) _).alloc (by simp) _
  have hr : W2.rangeAt w.heap.size 0 (K.map byV) := by
    intro j v hj
    rw [hW2, World.cell?_alloc_past _ _ _ (by simp), World.cell?_alloc_at _ _ _ _ rfl, Nat.zero_add]
    simpa using hj
  generalize hG : initG (le8 K 0) (le8 K 8) (le8 K 16) (le8 K 24) = G
  have hi := init41 (w.heap.size + 1) K hK W2.drew (fun k hk => by
    show (W2.cell? _).isSome = true
    rw [cell_of_row W2 _ k _ _ _ hg, Array.getElem?_eq_getElem (by rw [zGen_size]; omega)]; rfl) (fun k => frozen_of_row W2 _ k _ _ hg) (by show _ < W2.heap.size; omega)
  rw [hG] at hi
  refine (newChaW (K.map byV) (by rw [List.length_map]; exact hK) w W2 hW2 (fun w' => GenAt w' (w.heap.size + 1) G ∧ Below w.heap.size w w' ∧ w'.rangeAt w.heap.size 0 (K.map byV)) (hi.mono ?_) hr (fun _ h => h.2.2)).mono ?_
  · rintro e w' ⟨rfl, h2, h3⟩
    refine ⟨rfl, h2, hb.drew.trans (h3.below (B := w.heap.size) (by show _ ≤ W2.heap.size; omega) (by simp)), fun j v hj => ?_⟩
    exact h3.cell (hr j v hj) (by simp)
  · rintro e w' ⟨rfl, h1, h2, _⟩
    exact ⟨rfl, h1, h2⟩
end Go.Proofs.Ybulkvuk
