import Derived.Test.YbulkvukOpen
import Derived.Test.YbulkvukRBld
namespace Go.Proofs.Ybulkvuk
open Go.ChangeShapes Go.WideShapes Go.ChangeAt Go.RowKit Go.Deep
set_option linter.unusedVariables false

theorem list_of {α : Type} {Q : Nat → α → Prop} : ∀ n : Nat, (∀ j, j < n → ∃ x, Q j x) → ∃ L : List α, L.length = n ∧ ∀ (j : Nat) (x : α), L[j]? = some x → Q j x
  | 0, _ => ⟨[], rfl, fun j x hj => by simp at hj⟩
  | n + 1, h => by
    obtain ⟨L, hL, hq⟩ := list_of n fun j hj => h j (by omega)
    obtain ⟨x, hx⟩ := h n (by omega)
    refine ⟨L ++ [x], by rw [List.length_append, hL]; rfl, fun j y hj => ?_⟩
    by_cases hjn : j < n
    · rw [List.getElem?_append_left (by omega)] at hj
      exact hq j y hj
    · have hlt := (List.getElem?_eq_some_iff.1 hj).1
      rw [List.length_append, hL, List.length_singleton] at hlt
      obtain rfl : j = n := by omega
      rw [List.getElem?_append_right (by omega), hL, Nat.sub_self] at hj
      simp at hj
      subst hj
      exact hx

theorem spot_none {w : World} {a : Addr} {v : Value} (h : w.cell? (a.add 0) = some v) : ∃ b off, a = ⟨b, off, none⟩ ∧ b < w.heap.size := by
  have hsp : a.spot = none := by
    obtain ⟨_, _, _, _, h4⟩ := World.shape?_of_cell? h
    simpa [Addr.add] using h4
  have hbl := World.block_lt_of_cell? w _ h
  obtain ⟨b, off, sp⟩ := a
  simp only at hsp
  subst hsp
  exact ⟨b, off, rfl, by rw [Addr.add_lit] at hbl; exact hbl⟩

theorem one_of {l : List Value} (h : l.length = 1) : ∃ a, l = [a] := by
  match l, h with
  | [a], _ => exact ⟨a, rfl⟩
theorem two_of {l : List Value} (h : l.length = 2) : ∃ a b, l = [a, b] := by
  match l, h with
  | [a, b], _ => exact ⟨a, b, rfl⟩

/-- What a slice of bytes that came in holds. -/
theorem open_u8s {H : Type} {enc : TypeId × Value → H} {w : World} {fuel : Nat} {cs : List Value} {x : DataW H × List MemPlace}
    (h : DataW.trod enc Yba.prog w 0 (fun _ => true) true fuel 23 cs = some x) :
    ∃ (ad : Option Addr) (cap : Nat) (C : List Nat), cs = [.slice ad C.length cap] ∧ CsAt w ad C := by
  have ce : Yba.prog.cellsOf 5 = 1 := by kernel_rfl
  rcases open_slice Yba.underlying23 h with ⟨h0, _⟩ | ⟨a, l, c, m, n, D, Pl, h0, hb, hl, hm, hmm, rfl, hx⟩
  · exact ⟨none, 0, [], h0, fun j x hj => by simp at hj⟩
  · have hm' : m = c := by simpa using hmm
    subst hm'
    obtain ⟨C, hC, hq⟩ := list_of (Q := fun j (y : Nat) => y < 256 ∧ w.cell? (a.add j) = some (.int .u8 (y : Int))) l fun j hj => by
      obtain ⟨cs', h1, h2⟩ := hx j (by omega)
      rw [ce, Nat.mul_one] at h1
      obtain ⟨_, hlen, hcell⟩ := World.cells?_some h1
      obtain ⟨v, rfl⟩ := one_of hlen
      obtain ⟨y, hy, _, hw⟩ := DataW.trod_int Yba.underlying5 h2
      have hbd := bounds_u8 hw
      simp at hy
      subst hy
      have e0 := hcell 0 (by omega)
      rw [add_add] at e0
      refine ⟨y.toNat, by omega, ?_⟩
      rw [show ((y.toNat : Nat) : Int) = y by omega]
      simpa using e0
    refine ⟨some a, m, C, by rw [h0, hC], fun j y hj => ?_⟩
    obtain ⟨q1, q2⟩ := hq j y hj
    have hj' := (List.getElem?_eq_some_iff.1 hj).1
    have z0 := (hq 0 _ (List.getElem?_eq_getElem (by omega))).2
    obtain ⟨b, off, rfl, lb⟩ := spot_none z0
    rw [Addr.add_lit] at q2
    exact ⟨q1, b, off, rfl, lb, q2⟩

/-- What a slice of places that came in holds. -/
theorem open_places {H : Type} {enc : TypeId × Value → H} {w : World} {fuel : Nat} {cs : List Value} {x : DataW H × List MemPlace}
    (h : DataW.trod enc Yba.prog w 0 (fun _ => true) true fuel 22 cs = some x) :
    ∃ (ad : Option Addr) (cap : Nat) (P : List (Nat × List Nat)), cs = [.slice ad P.length cap] ∧ PlAt w ad P := by
  have ce : Yba.prog.cellsOf 85 = 2 := by kernel_rfl
  have c5 : Yba.prog.cellsOf 5 = 1 := by kernel_rfl
  have c23 : Yba.prog.cellsOf 23 = 1 := by kernel_rfl
  rcases open_slice Yba.underlying22 h with ⟨h0, _⟩ | ⟨a, l, c, m, n, D, Pl, h0, hb, hl, hm, hmm, rfl, hx⟩
  · exact ⟨none, 0, [], h0, ⟨fun j g l hj => by simp at hj⟩⟩
  · have hm' : m = c := by simpa using hmm
    subst hm'
    obtain ⟨P, hP, hq⟩ := list_of (Q := fun j (p : Nat × List Nat) => p.1 < 256 ∧ w.cell? (a.add (j * 2)) = some (.int .u8 (p.1 : Int)) ∧ ∃ oa oc, w.cell? (a.add (j * 2 + 1)) = some (.slice oa p.2.length oc) ∧ CsAt w oa p.2) l fun j hj => by
      obtain ⟨cs', h1, h2⟩ := hx j (by omega)
      rw [ce] at h1
      obtain ⟨_, hlen, hcell⟩ := World.cells?_some h1
      obtain ⟨v0, v1, rfl⟩ := two_of hlen
      obtain ⟨y0, y1, k, _, _, g0, g1⟩ := trod_struct2 Yba.underlying85 h2
      simp [c5, c23] at g0 g1
      obtain ⟨y, hy, _, hw⟩ := DataW.trod_int Yba.underlying5 g0
      have hbd := bounds_u8 hw
      simp at hy
      subst hy
      obtain ⟨oa, oc, C, hv, hC⟩ := open_u8s g1
      simp at hv
      subst hv
      have e0 := hcell 0 (by omega)
      have e1 := hcell 1 (by omega)
      rw [add_add] at e0 e1
      refine ⟨(y.toNat, C), by show y.toNat < 256; omega, ?_, oa, oc, by simpa using e1, hC⟩
      show w.cell? _ = some (.int .u8 ((y.toNat : Nat) : Int))
      rw [show ((y.toNat : Nat) : Int) = y by omega]
      simpa using e0
    refine ⟨some a, m, P, by rw [h0, hP], ⟨fun j g l' hj => ?_⟩⟩
    obtain ⟨q1, q2, oa, oc, q3, q4⟩ := hq j (g, l') hj
    have hj' := (List.getElem?_eq_some_iff.1 hj).1
    have z0 := (hq 0 _ (List.getElem?_eq_getElem (by omega))).2.1
    rw [Nat.zero_mul] at z0
    obtain ⟨b, off, rfl, lb⟩ := spot_none z0
    rw [Addr.add_lit] at q2 q3
    refine ⟨q1, b, off, rfl, lb, q2, oa, oc, by rw [Nat.add_assoc]; exact q3, fun i x hx' => ?_⟩
    exact q4 i x hx'
end Go.Proofs.Ybulkvuk
