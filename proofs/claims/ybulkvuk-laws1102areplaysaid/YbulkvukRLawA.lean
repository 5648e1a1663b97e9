import Derived.Test.YbulkvukRBld2
import Derived.Test.YbulkvukRForge2
namespace Go.Proofs.Ybulkvuk
open Go.RowKit
set_option linter.unusedVariables false

theorem ScAt.mono {w : World} {B B' scb : Nat} {S : Scn} (h : ScAt w B scb S) (hb : B ≤ B') : ScAt w B' scb S := by
  obtain ⟨h1, h2, h3, h4, h5, h6, h7, h8, h9, h10, hn, hbc, hpl⟩ := h
  refine ⟨by omega, h2, h3, h4, h5, h6, h7, h8, h9, h10, ?_, ?_, ?_⟩
  · obtain ⟨nb, rb, c, l1, l2, q1, q2, q3⟩ := hn
    refine ⟨nb, rb, c, by omega, by omega, q1, q2, fun v hv => ?_⟩
    obtain ⟨ab, c, l3, q4, q5⟩ := q3 v hv
    exact ⟨ab, c, by omega, q4, q5⟩
  · obtain ⟨ba, c, q1, q2⟩ := hbc
    refine ⟨ba, c, q1, fun j p hp => ?_⟩
    obtain ⟨bb, off, e, l, k⟩ := q2 j p hp
    exact ⟨bb, off, e, by omega, k⟩
  · obtain ⟨pa, c, q1, q2⟩ := hpl
    refine ⟨pa, c, q1, fun j f l hf hl => ?_⟩
    obtain ⟨pb, off, e, lp, a, oa, oc, b, d⟩ := q2 j f l hf hl
    refine ⟨pb, off, e, by omega, a, oa, oc, b, fun i x hx => ?_⟩
    obtain ⟨ob, oo, e2, lo, k⟩ := d i x hx
    exact ⟨ob, oo, e2, by omega, k⟩

theorem TabAt.mono {w : World} {B B' : Nat} {fa oa : Option Addr} {fc oc : Nat} {S : Scn} (h : TabAt w B fa oa fc oc S) (hb : B ≤ B') : TabAt w B' fa oa fc oc S := by
  refine ⟨fun j f hf => ?_, fun j l hl => ?_⟩
  · obtain ⟨b, o, e, lb, q⟩ := h.fr j f hf
    exact ⟨b, o, e, by omega, q⟩
  · obtain ⟨b, o, e, lb, ra, rc, q, r⟩ := h.on j l hl
    refine ⟨b, o, e, by omega, ra, rc, q, fun i x hx => ?_⟩
    obtain ⟨ob, oo, e2, lo, k⟩ := r i x hx
    exact ⟨ob, oo, e2, by omega, k⟩

set_option maxRecDepth 100000 in
/-- (*Forgery).Actions. -/
theorem actions (fb : Nat) (ao : Option Addr) (n c : Nat) (w : World) (h : w.cell? ⟨fb, 3, none⟩ = some (.slice ao n c)) :
    Calls Yba.prog 11 #[.pointer (some ⟨fb, 0, none⟩)] w fun e w' => e = .returned (.slice ao n c) ∧ w' = w := by
  go_enter Yba.func11, Yba.ntmps11
  go_wp2
  go_ret
  exact ⟨rfl, rfl⟩

theorem eq_nil (w : World) : Calls Yba.prog 16 #[.slice none 0 0, .slice none 0 0] w fun e w' => e = .returned (.bool true) ∧ w' = w := by
  refine (Any.slices_Equal_int_empty equLays none none 0 0 0 w (by decide)).mono ?_
  rintro e w' ⟨rfl, rfl⟩
  exact ⟨rfl, rfl⟩
theorem eq_one (t1 t2 : Nat) (x : Int) (w : World) (h1 : w.cell? ⟨t1, 0, none⟩ = some (.int .i64 x)) (h2 : w.cell? ⟨t2, 0, none⟩ = some (.int .i64 x)) :
    Calls Yba.prog 16 #[.slice (some ⟨t1, 0, none⟩) 1 1, .slice (some ⟨t2, 0, none⟩) 1 1] w fun e w' => e = .returned (.bool true) ∧ ∃ q, w' = w.drewN q := by
  refine (Any.slices_Equal_int equLays t1 0 1 1 t2 0 1 1 [x] [x] w (by simp) (by simp) (by decide) (by decide) (fun j hj => ?_) (fun j hj => ?_)).mono ?_
  · obtain rfl : j = 0 := by simpa using hj
    exact h1
  · obtain rfl : j = 0 := by simpa using hj
    exact h2
  · rintro e w' ⟨rfl, h⟩
    exact ⟨by simp, h⟩

theorem own_form {w : World} {B e size n : Nat} {v : Value} {xs : List Value} (h : w.ownsRow B e size v n xs) : ∃ ao c, v = .slice ao n c := by
  rcases h.2 with ⟨rfl, h0⟩ | ⟨g, cap, cur, h0, _⟩
  · exact ⟨none, 0, by rw [h0]⟩
  · exact ⟨_, cap, h0⟩

/-- What an own row of actions holds at a place. -/
theorem ac_cells {w : World} {B n c : Nat} {ao : Option Addr} {A : List Ac} {m : Value} (h : w.ownsRow B 51 6 (.slice ao n c) n (A.flatMap (acCells m))) (hn : A.length = n) {i : Nat} {a : Ac} (hi : A[i]? = some a) :
    ∃ g, ao = some ⟨g, 0, none⟩ ∧ g < w.heap.size ∧ w.cell? ⟨g, i * 6, none⟩ = some (.int .i64 (a.r : Int)) ∧ w.cell? ⟨g, i * 6 + 1, none⟩ = some (.int .i64 (a.p : Int)) ∧ w.cell? ⟨g, i * 6 + 2, none⟩ = some m ∧ w.cell? ⟨g, i * 6 + 3, none⟩ = some (.bool false) ∧ w.cell? ⟨g, i * 6 + 4, none⟩ = some (.bool a.dst.isNone) ∧ w.cell? ⟨g, i * 6 + 5, none⟩ = some (toV a.dst) := by
  have hl := (List.getElem?_eq_some_iff.1 hi).1
  obtain ⟨g, cap, e, _, lt⟩ := h.form (by omega)
  cases e
  have cell : ∀ k, k < 6 → w.cell? ⟨g, i * 6 + k, none⟩ = (acCells m a)[k]? := fun k hk => by
    rw [h.cellAt (i * 6 + k) (by omega)]
    exact flatMap_at 6 _ (fun _ => rfl) A i k a hi hk
  exact ⟨g, rfl, lt, cell 0 (by omega), cell 1 (by omega), cell 2 (by omega), cell 3 (by omega), cell 4 (by omega), cell 5 (by omega)⟩

/-- The two lists of actions in memory. -/
structure Two (w : World) (m : Value) (a1 a2 : Option Addr) (n c1 c2 : Nat) (A1 A2 : List Ac) : Prop where
  o1 : ∃ B, w.ownsRow B 51 6 (.slice a1 n c1) n (A1.flatMap (acCells m))
  o2 : ∃ B, w.ownsRow B 51 6 (.slice a2 n c2) n (A2.flatMap (acCells m))
  l1 : A1.length = n
  l2 : A2.length = n
  ab : A1.map absA = A2.map absA
  t1 : ∀ a ∈ A1, ∀ tb x, a.dst = some (tb, x) → w.cell? ⟨tb, 0, none⟩ = some (.int .i64 (x : Int))
  t2 : ∀ a ∈ A2, ∀ tb x, a.dst = some (tb, x) → w.cell? ⟨tb, 0, none⟩ = some (.int .i64 (x : Int))

/-- Actions i of the two lists: to all, or to one and the same. -/
theorem Two.at {w wr : World} {m : Value} {a1 a2 : Option Addr} {n c1 c2 : Nat} {A1 A2 : List Ac} (h : Two w m a1 a2 n c1 c2 A1 A2) (hb : Below w.heap.size w wr) {i : Nat} (hi : i < n) :
    ∃ g1 g2 r p : Nat, a1 = some ⟨g1, 0, none⟩ ∧ a2 = some ⟨g2, 0, none⟩ ∧ g1 < w.heap.size ∧ g2 < w.heap.size ∧ (∀ g, g = g1 ∨ g = g2 → wr.cell? ⟨g, i * 6, none⟩ = some (.int .i64 (r : Int)) ∧ wr.cell? ⟨g, i * 6 + 1, none⟩ = some (.int .i64 (p : Int)) ∧ wr.cell? ⟨g, i * 6 + 2, none⟩ = some m ∧ wr.cell? ⟨g, i * 6 + 3, none⟩ = some (.bool false)) ∧
      ((wr.cell? ⟨g1, i * 6 + 4, none⟩ = some (.bool true) ∧ wr.cell? ⟨g2, i * 6 + 4, none⟩ = some (.bool true) ∧ wr.cell? ⟨g1, i * 6 + 5, none⟩ = some (.slice none 0 0) ∧ wr.cell? ⟨g2, i * 6 + 5, none⟩ = some (.slice none 0 0)) ∨
       (∃ t1 t2 x : Nat, wr.cell? ⟨g1, i * 6 + 4, none⟩ = some (.bool false) ∧ wr.cell? ⟨g2, i * 6 + 4, none⟩ = some (.bool false) ∧ wr.cell? ⟨g1, i * 6 + 5, none⟩ = some (.slice (some ⟨t1, 0, none⟩) 1 1) ∧ wr.cell? ⟨g2, i * 6 + 5, none⟩ = some (.slice (some ⟨t2, 0, none⟩) 1 1) ∧ t1 < w.heap.size ∧ t2 < w.heap.size ∧ wr.cell? ⟨t1, 0, none⟩ = some (.int .i64 (x : Int)) ∧ wr.cell? ⟨t2, 0, none⟩ = some (.int .i64 (x : Int)))) := by
  have cc : ∀ {b o v}, w.cell? ⟨b, o, none⟩ = some v → wr.cell? ⟨b, o, none⟩ = some v := fun hc => by rw [hb.cell (World.block_lt_of_cell? w _ hc)]; exact hc
  obtain ⟨B1, o1⟩ := h.o1
  obtain ⟨B2, o2⟩ := h.o2
  obtain ⟨x1, e1⟩ : ∃ a, A1[i]? = some a := ⟨_, List.getElem?_eq_getElem (by rw [h.l1]; exact hi)⟩
  obtain ⟨x2, e2⟩ : ∃ a, A2[i]? = some a := ⟨_, List.getElem?_eq_getElem (by rw [h.l2]; exact hi)⟩
  have hab : absA x1 = absA x2 := by
    have := congrArg (fun l => l[i]?) h.ab
    simp only [List.getElem?_map, e1, e2, Option.map_some] at this
    exact Option.some.inj this
  simp only [absA, Prod.mk.injEq] at hab
  obtain ⟨hr, hp, hd⟩ := hab
  obtain ⟨g1, rfl, l1, p0, p1, p2, p3, p4, p5⟩ := ac_cells o1 h.l1 e1
  obtain ⟨g2, rfl, l2, q0, q1, q2, q3, q4, q5⟩ := ac_cells o2 h.l2 e2
  rw [← hr] at q0
  rw [← hp] at q1
  refine ⟨g1, g2, x1.r, x1.p, rfl, rfl, l1, l2, fun g hg => ?_, ?_⟩
  · rcases hg with rfl | rfl
    · exact ⟨cc p0, cc p1, cc p2, cc p3⟩
    · exact ⟨cc q0, cc q1, cc q2, cc q3⟩
  · cases d1 : x1.dst with
    | none =>
      cases d2 : x2.dst with
      | none =>
        rw [d1] at p4 p5
        rw [d2] at q4 q5
        exact .inl ⟨cc p4, cc q4, cc p5, cc q5⟩
      | some y => rw [d1, d2] at hd; cases hd
    | some y1 =>
      cases d2 : x2.dst with
      | none => rw [d1, d2] at hd; cases hd
      | some y2 =>
        obtain ⟨t1, v1⟩ := y1
        obtain ⟨t2, v2⟩ := y2
        rw [d1, d2] at hd
        simp at hd
        subst hd
        rw [d1] at p4 p5
        rw [d2] at q4 q5
        have k1 := h.t1 x1 (List.mem_of_getElem? e1) t1 v1 d1
        have k2 := h.t2 x2 (List.mem_of_getElem? e2) t2 v1 d2
        exact .inr ⟨t1, t2, v1, cc p4, cc q4, cc p5, cc q5, World.block_lt_of_cell? w _ k1, World.block_lt_of_cell? w _ k2, cc k1, cc k2⟩
end Go.Proofs.Ybulkvuk
