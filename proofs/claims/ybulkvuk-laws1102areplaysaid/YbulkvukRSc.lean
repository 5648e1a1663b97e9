import Derived.Test.YbulkvukRIntN
namespace Go.Proofs.Ybulkvuk
open Go.RowKit
set_option linter.unusedVariables false

/-- What the law's scenario holds. -/
structure Scn where
  n : Nat
  rounds : Nat
  pays : List (List UInt8)
  froms : List Nat
  ons : List (List Nat)

def strV (l : List UInt8) : Value := .string ⟨l.toArray⟩

/-- The j-th neighbour of v in a complete graph. -/
def nbr (v j : Nat) : Nat := if j < v then j else j + 1

/-- The scenario at block scb, whole below B. -/
structure ScAt (w : World) (B scb : Nat) (S : Scn) : Prop where
  lt : scb < B
  n2 : 2 ≤ S.n
  n8 : S.n ≤ 8
  r16 : S.rounds ≤ 16
  p256 : S.pays.length ≤ 256
  f64 : S.froms.length ≤ 64
  lens : S.ons.length = S.froms.length
  on256 : ∀ l ∈ S.ons, l.length ≤ 256 ∧ ∀ x ∈ l, x < S.n
  proc : w.cell? ⟨scb, 0, none⟩ = some (.int .i64 (S.n : Int))
  rnd : w.cell? ⟨scb, 2, none⟩ = some (.int .i64 (S.rounds : Int))
  net : ∃ nb rb c, nb < B ∧ rb < B ∧ w.cell? ⟨scb, 3, none⟩ = some (.pointer (some ⟨nb, 0, none⟩)) ∧ w.cell? ⟨nb, 0, none⟩ = some (.slice (some ⟨rb, 0, none⟩) S.n c) ∧
    ∀ v, v < S.n → ∃ ab c, ab < B ∧ w.cell? ⟨rb, v, none⟩ = some (.slice (some ⟨ab, 0, none⟩) (S.n - 1) c) ∧ ∀ j, j < S.n - 1 → w.cell? ⟨ab, j, none⟩ = some (.int .i64 (nbr v j : Int))
  bc : ∃ ba c, w.cell? ⟨scb, 8, none⟩ = some (.slice ba S.pays.length c) ∧
    ∀ (j : Nat) (p : List UInt8), S.pays[j]? = some p → ∃ bb off, ba = some ⟨bb, off, none⟩ ∧ bb < B ∧ ∃ x y z, w.cell? ⟨bb, off + j * 4, none⟩ = some (.int .i64 x) ∧ w.cell? ⟨bb, off + j * 4 + 1, none⟩ = some (.int .i64 y) ∧ w.cell? ⟨bb, off + j * 4 + 2, none⟩ = some (.int .i64 z) ∧ w.cell? ⟨bb, off + j * 4 + 3, none⟩ = some (strV p)
  pl : ∃ pa c, w.cell? ⟨scb, 10, none⟩ = some (.slice pa S.froms.length c) ∧
    ∀ (j f : Nat) (l : List Nat), S.froms[j]? = some f → S.ons[j]? = some l → ∃ pb off, pa = some ⟨pb, off, none⟩ ∧ pb < B ∧ w.cell? ⟨pb, off + j * 2, none⟩ = some (.int .i64 (f : Int)) ∧
      ∃ oa oc, w.cell? ⟨pb, off + j * 2 + 1, none⟩ = some (.slice oa l.length oc) ∧ ∀ (i x : Nat), l[i]? = some x → ∃ ob oo, oa = some ⟨ob, oo, none⟩ ∧ ob < B ∧ w.cell? ⟨ob, oo + i, none⟩ = some (.int .i64 (x : Int))

theorem ScAt.below {w w' : World} {B scb : Nat} {S : Scn} (h : ScAt w B scb S) (hb : Below B w w') : ScAt w' B scb S := by
  have cc : ∀ {b o v}, b < B → w.cell? ⟨b, o, none⟩ = some v → w'.cell? ⟨b, o, none⟩ = some v := fun hl hc => by rw [hb.cell (by exact hl)]; exact hc
  obtain ⟨h1, h2, h3, h4, h5, h6, h7, h8, h9, h10, hn, hbc, hpl⟩ := h
  refine ⟨h1, h2, h3, h4, h5, h6, h7, h8, cc h1 h9, cc h1 h10, ?_, ?_, ?_⟩
  · obtain ⟨nb, rb, c, l1, l2, q1, q2, q3⟩ := hn
    refine ⟨nb, rb, c, l1, l2, cc h1 q1, cc l1 q2, fun v hv => ?_⟩
    obtain ⟨ab, c, l3, q4, q5⟩ := q3 v hv
    exact ⟨ab, c, l3, cc l2 q4, fun j hj => cc l3 (q5 j hj)⟩
  · obtain ⟨ba, c, q1, q2⟩ := hbc
    refine ⟨ba, c, cc h1 q1, fun j p hp => ?_⟩
    obtain ⟨bb, off, e, l, x, y, z, a, b, c, d⟩ := q2 j p hp
    exact ⟨bb, off, e, l, x, y, z, cc l a, cc l b, cc l c, cc l d⟩
  · obtain ⟨pa, c, q1, q2⟩ := hpl
    refine ⟨pa, c, cc h1 q1, fun j f l hf hl => ?_⟩
    obtain ⟨pb, off, e, lp, a, oa, oc, b, d⟩ := q2 j f l hf hl
    refine ⟨pb, off, e, lp, cc lp a, oa, oc, cc lp b, fun i x hx => ?_⟩
    obtain ⟨ob, oo, e2, lo, k⟩ := d i x hx
    exact ⟨ob, oo, e2, lo, cc lo k⟩

theorem Tr.below {X : List Nat} {w w' : World} {B : Nat} (h : Tr X w w') (hB : B ≤ w.heap.size) (hX : ∀ x ∈ X, B ≤ x) : Below B w w' :=
  ⟨h.os, h.tape, h.output, h.size, fun k hk => h.block k (by omega) fun hc => by have := hX k hc; omega⟩
theorem Tr.of_below {w w' : World} (X : List Nat) (h : Below w.heap.size w w') : Tr X w w' := ⟨h.os, h.tape, h.output, h.size, fun k hk _ => h.block k hk⟩

/-- (*Forgery).Coin's word. -/
theorem coin (fb gb : Nat) (G : Gen) (w : World) (hne : fb ≠ gb) (hc : w.cell? ⟨fb, 1, none⟩ = some (.pointer (some ⟨gb, 0, none⟩))) (hG : GenAt w gb G) (hO : GOk G) :
    Calls Yba.prog 14 #[.pointer (some ⟨fb, 0, none⟩)] w fun e w' => e = .returned (.bool (decide (intV 2 G = 1))) ∧ GenAt w' gb (intG 2 G) ∧ Tr [gb] w w' := by
  have hi := intN fb gb 2 (by decide) (by decide) G w hne hc hG hO
  have hlt := intV_lt (n := 2) G (by decide)
  go_enter Yba.func14, Yba.ntmps14
  go_wp2_with fail
  refine hi.mono ?_
  rintro e w' ⟨rfl, hG', hT⟩
  generalize hv : intV 2 G = v at *
  go_wp2
  go_ret
  refine ⟨?_, hG', hT⟩
  have : ((v : Int) == 1) = decide (v = 1) := by
    by_cases h : v = 1
    · subst h; rfl
    · simp [h]; omega
  rw [hv, ← this]; rfl

def othV (n k : Nat) (G : Gen) : Nat := if k ≤ intV (n - 1) G then intV (n - 1) G + 1 else intV (n - 1) G

theorem intNOther (fb gb n k : Nat) (h2 : 2 ≤ n) (h8 : n ≤ 8) (hk : k < n) (G : Gen) (w : World) (hne : fb ≠ gb) (hc : w.cell? ⟨fb, 1, none⟩ = some (.pointer (some ⟨gb, 0, none⟩))) (hG : GenAt w gb G) (hO : GOk G) :
    Calls Yba.prog 28 #[.pointer (some ⟨fb, 0, none⟩), .int .i64 n, .int .i64 k] w fun e w' => e = .returned (.int .i64 (othV n k G : Nat)) ∧ GenAt w' gb (intG (n - 1) G) ∧ Tr [gb] w w' := by
  have hi := intN fb gb (n - 1) (by omega) (by omega) G w hne hc hG hO
  have e1 : ((n - 1 : Nat) : Int) = (n : Int) - 1 := by omega
  rw [e1] at hi
  have hlt := intV_lt (n := n - 1) G (by omega)
  go_enter Yba.func28, Yba.ntmps28
  go_wp2_with fail
  refine hi.mono ?_
  rintro e w' ⟨rfl, hG', hT⟩
  by_cases hv : k ≤ intV (n - 1) G
  · have HV : Hid (othV n k G = intV (n - 1) G + 1) := by show othV n k G = _; rw [othV, if_pos hv]
    have b1 : (k : Int) ≤ ((intV (n - 1) G : Nat) : Int) := by omega
    generalize intV (n - 1) G = v at *
    go_wp2
    go_ret
    refine ⟨?_, hG', hT⟩
    rw [HV.out]; rfl
  · have HV : Hid (othV n k G = intV (n - 1) G) := by show othV n k G = _; rw [othV, if_neg hv]
    have b1 : ¬ ((k : Int) ≤ ((intV (n - 1) G : Nat) : Int)) := by omega
    generalize intV (n - 1) G = v at *
    go_wp2
    go_ret
    refine ⟨?_, hG', hT⟩
    rw [HV.out]; rfl
end Go.Proofs.Ybulkvuk
