import Derived.Test.YbulkvukRows
import Derived.WalkKit
import Derived.ProofKit
import Derived.OpenShut
import Derived.Deep.Slices
import Derived.Deep.Strs
namespace Go.Proofs.Ybulkvuk
open Go.ChangeShapes Go.WideShapes Go.ChangeAt Go.RowKit Go.Deep
set_option linter.unusedVariables false

theorem laidOut : laidOutB Yba.prog = true := by kernel_rfl
theorem own : ownKnob Yba.prog.godebug = none := by kernel_rfl

theorem three_of {l : List Value} (h : l.length = 3) : ∃ a b c, l = [a, b, c] := by
  match l, h with
  | [a, b, c], _ => exact ⟨a, b, c, rfl⟩

/-- What a slice of messages that came in holds. -/
theorem open_msgs {H : Type} {enc : TypeId × Value → H} {w : World} {fuel : Nat} {ad : Option Addr} {len cap : Nat} {x : DataW H × List MemPlace}
    (h : DataW.trod enc Yba.prog w 0 (fun _ => true) true fuel 61 [.slice ad len cap] = some x) :
    len ≤ 9223372036854775807 ∧ (0 < len → ∃ b off, ad = some ⟨b, off, none⟩ ∧ b < w.heap.size ∧ ∀ j, j < len → ∃ (x y : Int) (z : ByteArray), w.cell? ⟨b, off + j * 3, none⟩ = some (.int .i64 x) ∧ w.cell? ⟨b, off + j * 3 + 1, none⟩ = some (.int .i64 y) ∧ w.cell? ⟨b, off + j * 3 + 1 + 1, none⟩ = some (.string z)) := by
  have ce : Yba.prog.cellsOf 49 = 3 := by kernel_rfl
  rcases open_slice Yba.underlying61 h with ⟨h0, _⟩ | ⟨a, l, c, m, n, D, Pl, h0, hb, hl, hm, hmm, rfl, hx⟩
  · simp at h0
    obtain ⟨rfl, rfl, rfl⟩ := h0
    exact ⟨by omega, fun h => by omega⟩
  · simp at h0
    obtain ⟨rfl, rfl, rfl⟩ := h0
    have hm' : m = cap := by simpa using hmm
    subst hm'
    unfold maxLen at hm
    refine ⟨by omega, fun hpos => ?_⟩
    have each : ∀ j, j < len → ∃ (x y : Int) (z : ByteArray), w.cell? (a.add (j * 3)) = some (.int .i64 x) ∧ w.cell? (a.add (j * 3 + 1)) = some (.int .i64 y) ∧ w.cell? (a.add (j * 3 + 2)) = some (.string z) := by
      intro j hj
      obtain ⟨cs', h1, h2⟩ := hx j (by omega)
      rw [ce] at h1
      obtain ⟨_, hlen, hcell⟩ := World.cells?_some h1
      obtain ⟨y0, y1, y2, k, _, _, g0, g1, g2⟩ := trod_struct3 Yba.underlying49 h2
      have c3 : Yba.prog.cellsOf 3 = 1 := by kernel_rfl
      have c9 : Yba.prog.cellsOf 9 = 1 := by kernel_rfl
      obtain ⟨v0, v1, v2, rfl⟩ := three_of hlen
      simp [c3, c9] at g0 g1 g2
      have e0 := hcell 0 (by omega)
      have e1 := hcell 1 (by omega)
      have e2 := hcell 2 (by omega)
      rw [add_add] at e0 e1 e2
      obtain ⟨x, hx0, _, _⟩ := DataW.trod_int Yba.underlying3 g0
      obtain ⟨y, hy0, _, _⟩ := DataW.trod_int Yba.underlying3 g1
      obtain ⟨z, hz0, _⟩ := DataW.trod_string Yba.underlying9 g2
      simp at hx0 hy0 hz0
      subst hx0 hy0 hz0
      exact ⟨x, y, z, by simpa using e0, by simpa using e1, by simpa using e2⟩
    obtain ⟨x, y, z, q0, _, _⟩ := each 0 hpos
    have hsp : a.spot = none := by
      obtain ⟨_, _, _, _, h4⟩ := World.shape?_of_cell? q0
      simpa [Addr.add] using h4
    have hbl := World.block_lt_of_cell? w _ q0
    obtain ⟨b, off, sp⟩ := a
    simp only at hsp
    subst hsp
    refine ⟨b, off, rfl, by simpa [Addr.add] using hbl, fun j hj => ?_⟩
    obtain ⟨x, y, z, q0, q1, q2⟩ := each j hj
    rw [Addr.add_lit] at q0 q1 q2
    exact ⟨x, y, z, q0, by rw [Nat.add_assoc]; exact q1, by rw [Nat.add_assoc, Nat.add_assoc]; exact q2⟩
end Go.Proofs.Ybulkvuk
