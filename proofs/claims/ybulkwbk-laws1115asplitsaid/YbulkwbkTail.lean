import Derived.Test.YbulkwbkPost
namespace Go.Proofs.Ybulkwbk
open Go.RowKit
set_option linter.unusedVariables false

/-- Two slices that the law builds side by side behind drop. -/
structure Lp (ws wr : World) (vk vw : Value) (K W : List Nat) : Prop where
  bel : Below ws.heap.size ws wr
  ownk : wr.ownsRow ws.heap.size 25 1 vk K.length (K.map pt)
  ownw : wr.ownsRow ws.heap.size 25 1 vw W.length (W.map pt)
  ne : ∀ b, vk.ownBlock = some b → vw.ownBlock ≠ some b

theorem Lp.symm {ws wr : World} {vk vw : Value} {K W : List Nat} (h : Lp ws wr vk vw K W) : Lp ws wr vw vk W K :=
  ⟨h.bel, h.ownw, h.ownk, fun b hb hc => h.ne b hc hb⟩

/-- One element more at the end of the second. -/
theorem Lp.step {ws wr w4 : World} {vk vw : Value} {K W : List Nat} {x g cap : Nat} (h : Lp ws wr vk vw K W)
    (hown : w4.ownsRow ws.heap.size 25 1 (.slice (some ⟨g, 0, none⟩) (W.length + 1) cap) (W.length + 1) (W.map pt ++ [pt x]))
    (hgrow : (wr.alloc (.cells #[pt x] 25)).grownBy w4 vw.ownBlock) (hat : vw.ownBlock = some g ∨ g = wr.heap.size + 1) :
    Lp ws w4 vk (.slice (some ⟨g, 0, none⟩) (W.length + 1) cap) K (W ++ [x]) := by
  have hs := h.bel.size
  refine ⟨?_, ?_, ?_, ?_⟩
  · exact (h.bel.alloc hs _).grown hgrow (by simp; omega) (fun k hk => (h.ownw.lt k hk).1)
  · refine (h.ownk.alloc _).kept hgrow ?_
    cases hv : vk.ownBlock with
    | none => exact .inl rfl
    | some b => exact .inr (Ne.symm (h.ne b hv))
  · rw [List.length_append, List.map_append]; exact hown
  · intro b hb hc
    simp only [Value.ownBlock, Option.some.injEq] at hc
    subst hc
    rcases hat with e | e
    · exact h.ne _ hb e
    · have := (h.ownk.lt _ hb).2; omega

theorem news_one (wr : World) (x : Nat) : ∀ j u, [pt x][j]? = some u → (wr.alloc (.cells #[pt x] 25)).cell? ((⟨wr.heap.size, 0, none⟩ : Addr).add j) = some u := by
  intro j u hj
  rw [Addr.add_lit, Nat.zero_add, World.cell?_alloc_at _ _ _ _ rfl]
  simpa using hj
theorem one_one (x : Nat) : ∀ u ∈ [pt x], u.oneCell' = true := by
  intro u hu
  simp at hu
  subst hu; rfl

theorem Holds.below {w w' : World} {v : Value} {L : List Nat} (h : Holds w v L) (hb : Below w.heap.size w w') : Holds w' v L := by
  obtain ⟨ao, c, rfl, h⟩ := h
  refine ⟨ao, c, rfl, fun hp => ?_⟩
  obtain ⟨b, o, e, hc⟩ := h hp
  refine ⟨b, o, e, fun j x hx => ?_⟩
  have hl := World.block_lt_of_cell? w _ (hc j x hx)
  rw [hb.cell (p := ⟨b, o + j, none⟩) hl]; exact hc j x hx

theorem Post.below {w w' w'' : World} {rb rO sab hob n mc k : Nat} {ma : Option Addr} {Mk : Nat → Bool} {ob oo : Nat → Nat} {sm : Bool} {kv vd : Value} (h : Post w w' rb rO sab hob n mc k ma Mk ob oo sm kv vd) (hb : Below w'.heap.size w' w'') :
    Post w w'' rb rO sab hob n mc k ma Mk ob oo sm kv vd := by
  obtain ⟨h1, h2, h3, h4, h5, h6, h7, h8, h9, h10, h11, h12⟩ := h
  have cc : ∀ {b o v}, w'.cell? ⟨b, o, none⟩ = some v → w''.cell? ⟨b, o, none⟩ = some v := fun hc => by
    rw [hb.cell (World.block_lt_of_cell? w' _ hc)]; exact hc
  have hsz := hb.size
  exact ⟨cc h1, fun i hi => by obtain ⟨a, b, e, hl, hc⟩ := h2 i hi; exact ⟨a, b, e, by omega, cc hc⟩, h3.of_block (hb.block _ h3.lt), h4.of_block (hb.block _ h4.lt), cc h5, cc h6, h7.below hb, h8.below hb, fun hs => ⟨cc (h9 hs).1, cc (h9 hs).2⟩, h10.trans (hb.mono h10.size), h11, h12⟩

theorem Post.drewN {w w' : World} {rb rO sab hob n mc k : Nat} {ma : Option Addr} {Mk : Nat → Bool} {ob oo : Nat → Nat} {sm : Bool} {kv vd : Value} (h : Post w w' rb rO sab hob n mc k ma Mk ob oo sm kv vd) (q : Nat) :
    Post w (w'.drewN q) rb rO sab hob n mc k ma Mk ob oo sm kv vd := h.below ⟨rfl, rfl, rfl, Nat.le_refl _, fun _ _ => rfl⟩
end Go.Proofs.Ybulkwbk
