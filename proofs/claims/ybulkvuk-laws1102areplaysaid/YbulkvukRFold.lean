import Derived.Test.YbulkvukRTab
namespace Go.Proofs.Ybulkvuk
open Go.RowKit
set_option linter.unusedVariables false

/-- One occupied process in round r: a coin, and on heads a send. -/
def stepP (n r : Nat) (s : Gen × List (Nat × Nat × Option Nat)) (p : Nat) : Gen × List (Nat × Nat × Option Nat) :=
  if intV 2 s.1 = 1 then (sendG n (intG 2 s.1), addB s.2 (r, p, sendT n p (intG 2 s.1))) else (intG 2 s.1, s.2)
def runP (n r : Nat) (l : List Nat) (s : Gen × List (Nat × Nat × Option Nat)) : Gen × List (Nat × Nat × Option Nat) := l.foldl (stepP n r) s
def runR (S : Scn) (cut : Nat → Nat) : Nat → Gen × List (Nat × Nat × Option Nat) → Gen × List (Nat × Nat × Option Nat)
  | 0, s => s
  | k + 1, s => runP S.n (k + 1) (agL S (cut (k + 1))) (runR S cut k s)

theorem runP_take {n r : Nat} {l : List Nat} {s : Gen × List (Nat × Nat × Option Nat)} {i p : Nat} (hp : l[i]? = some p) : runP n r (l.take (i + 1)) s = stepP n r (runP n r (l.take i) s) p := by
  rw [runP, List.take_add_one, hp, Option.toList_some, List.foldl_append]; rfl

theorem agL_lt {w : World} {B scb : Nat} {S : Scn} (h : ScAt w B scb S) (c : Nat) : (agL S c).length ≤ 256 ∧ ∀ x ∈ agL S c, x < S.n := by
  unfold agL
  split
  · exact ⟨by simp, fun x hx => by simp at hx⟩
  · rw [List.getD_eq_getElem?_getD]
    cases e : S.ons[c - 1]? with
    | none => exact ⟨by simp, fun x hx => by simp at hx⟩
    | some l => exact h.on256 l (List.mem_of_getElem? e)

/-- The state of the two loops: behind the fold s. -/
structure Drv (w wr : World) (B scb fb gb : Nat) (mv : Value) (s : Gen × List (Nat × Nat × Option Nat)) : Prop where
  st : ∃ A av, FSt wr B scb fb gb s.1 (.iface 49 mv) A av ∧ A.map absA = s.2 ∧ A.length ≤ 10000
  bel : Below B w wr

theorem Drv.below {w wr w' : World} {B scb fb gb : Nat} {mv : Value} {s : Gen × List (Nat × Nat × Option Nat)} (h : Drv w wr B scb fb gb mv s) (hB : B ≤ wr.heap.size) (hb : Below wr.heap.size wr w') : Drv w w' B scb fb gb mv s := by
  obtain ⟨⟨A, av, h1, h2, h3⟩, h4⟩ := h
  exact ⟨⟨A, av, h1.below hb, h2, h3⟩, h4.trans (hb.mono hB)⟩

/-- Behind a coin and, on heads, a send. -/
theorem FSt.lt {w : World} {B scb fb gb : Nat} {G : Gen} {m av : Value} {A : List Ac} (h : FSt w B scb fb gb G m A av) : fb < w.heap.size ∧ gb < w.heap.size :=
  ⟨World.block_lt_of_cell? w _ h.f0, World.block_lt_of_cell? w _ h.gen.c0⟩
end Go.Proofs.Ybulkvuk
