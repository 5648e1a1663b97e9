import Derived.Test.YbulkvukRMsg
namespace Go.Proofs.Ybulkvuk
open Go.RowKit
set_option linter.unusedVariables false

/-- c placements have begun by round r. -/
def CutAt (S : Scn) (r c : Nat) : Prop := c ≤ S.froms.length ∧ ∀ (j f : Nat), S.froms[j]? = some f → (f ≤ r ↔ j < c)

/-- The two boxes that Agents' closure captures, and the placements. -/
structure Cap (w : World) (b1 b2 scb r : Nat) (S : Scn) (pa : Option Addr) (pc : Nat) : Prop where
  k1 : w.cell? ⟨b1, 0, none⟩ = some (.pointer (some ⟨scb, 0, none⟩))
  k2 : w.cell? ⟨b2, 0, none⟩ = some (.int .i64 (r : Int))
  pl : w.cell? ⟨scb, 10, none⟩ = some (.slice pa S.froms.length pc)
  el : ∀ (j f : Nat), S.froms[j]? = some f → ∃ pb off, pa = some ⟨pb, off, none⟩ ∧ w.cell? ⟨pb, off + j * 2, none⟩ = some (.int .i64 (f : Int))

theorem Cap.drewN {w : World} {b1 b2 scb r : Nat} {S : Scn} {pa : Option Addr} {pc : Nat} (h : Cap w b1 b2 scb r S pa pc) (q : Nat) : Cap (w.drewN q) b1 b2 scb r S pa pc := ⟨h.k1, h.k2, h.pl, h.el⟩

set_option maxRecDepth 100000 in
/-- Agents' closure. -/
theorem clo43 (b1 b2 scb r c i pc : Nat) (S : Scn) (pa : Option Addr) (w : World) (h : Cap w b1 b2 scb r S pa pc) (hc : CutAt S r c) (hi : i < S.froms.length) (hl : S.froms.length ≤ 64) :
    Calls Yba.prog 43 #[.int .i64 i, .pointer (some ⟨b1, 0, none⟩), .pointer (some ⟨b2, 0, none⟩)] w fun e w' => e = .returned (.bool (decide (c ≤ i))) ∧ ∃ q, w' = w.drewN q := by
  obtain ⟨f, hf⟩ : ∃ f, S.froms[i]? = some f := ⟨_, List.getElem?_eq_getElem hi⟩
  obtain ⟨pb, off, rfl, e1⟩ := h.el i f hf
  have k1 := h.k1
  have k2 := h.k2
  have pl := h.pl
  have hcut := hc.2 i f hf
  have b1' : (i : Int) < (S.froms.length : Int) := by omega
  have HD : Hid (decide (r < f) = decide (c ≤ i)) := by
    show decide _ = decide _
    exact decide_eq_decide.2 (by omega)
  clear h hc hcut hf
  go_enter Yba.func43, Yba.ntmps43
  go_wp2
  go_quiet (fail)
  go_wp2
  go_ret
  refine ⟨?_, _, rfl⟩
  rw [← HD.out]; rfl

set_option maxRecDepth 100000 in
/-- sort.Search over that closure. -/
theorem search42 (b1 b2 scb r c pc : Nat) (S : Scn) (pa : Option Addr) (w : World) (h : Cap w b1 b2 scb r S pa pc) (hc : CutAt S r c) (hl : S.froms.length ≤ 64) :
    Calls Yba.prog 42 #[.int .i64 (S.froms.length : Nat), .func (.func 43) #[] #[.pointer (some ⟨b1, 0, none⟩), .pointer (some ⟨b2, 0, none⟩)]] w fun e w' => e = .returned (.int .i64 (c : Nat)) ∧ ∃ q, w' = w.drewN q := by
  have hcl := hc.1
  have HH : Hid (∀ q i, i < S.froms.length → Calls Yba.prog 43 #[.int .i64 (i : Nat), .pointer (some ⟨b1, 0, none⟩), .pointer (some ⟨b2, 0, none⟩)] (w.drewN q) fun e w' => e = .returned (.bool (decide (c ≤ i))) ∧ ∃ p, w' = (w.drewN q).drewN p) := fun q i hi => clo43 b1 b2 scb r c i pc S pa _ (h.drewN q) hc hi hl
  clear h hc
  generalize S.froms.length = n at *
  go_enter Yba.func42, Yba.ntmps42
  go_wp2
  go_loopw [5, 6] (fun s5 s6 wr => ∃ lo hi q : Nat, s5 = .int .i64 lo ∧ s6 = .int .i64 hi ∧ lo ≤ c ∧ c ≤ hi ∧ hi ≤ n ∧ wr = w.drewN q) (fun s5 s6 _ => (intOf s6).toNat - (intOf s5).toNat)
  case atStart => exact ⟨0, n, 0, rfl, rfl, Nat.zero_le _, hcl, Nat.le_refl _, rfl⟩
  case round =>
    obtain ⟨lo, hi, q, rfl, rfl, h1, h2, h3, rfl⟩ := hrel
    by_cases hlt : lo < hi
    · have b1 : (lo : Int) < (hi : Int) := by omega
      obtain ⟨md, hmd⟩ : ∃ md, md = (lo + hi) / 2 := ⟨_, rfl⟩
      have hm1 : lo ≤ md := by omega
      have hm2 : md < hi := by omega
      have hq : ((lo : Int) + (hi : Int)) / 2 = (md : Int) := by omega
      clear hmd
      go_wp2_with fail
      refine (HH.out q md (by omega)).mono ?_
      rintro e w' ⟨rfl, p, rfl⟩
      by_cases hcm : c ≤ md
      · rw [decide_eq_true hcm]
        go_wp2
        go_roundw
        case rel => exact ⟨lo, md, q + p, rfl, rfl, h1, hcm, by omega, by simp⟩
        case measure => simp [intOf]; omega
      · rw [decide_eq_false hcm]
        go_wp2
        go_roundw
        case rel => exact ⟨md + 1, hi, q + p, by go_num, rfl, by omega, h2, h3, by simp⟩
        case measure => simp [intOf]; omega
    · have b1 : ¬ ((lo : Int) < (hi : Int)) := by omega
      obtain rfl : lo = c := by omega
      go_wp2
      go_ret
      exact ⟨rfl, q, rfl⟩

/-- The processes that agents occupy when c placements have begun. -/
def agL (S : Scn) (c : Nat) : List Nat := if c = 0 then [] else S.ons.getD (c - 1) []

/-- A slice of ints that holds the list. -/
def HoldsL (w : World) (B : Nat) (v : Value) (l : List Nat) : Prop := ∃ oa oc, v = .slice oa l.length oc ∧ ∀ (i x : Nat), l[i]? = some x → ∃ ob oo, oa = some ⟨ob, oo, none⟩ ∧ ob < B ∧ w.cell? ⟨ob, oo + i, none⟩ = some (.int .i64 (x : Int))

set_option maxRecDepth 100000 in
set_option maxHeartbeats 1000000 in
/-- (*Scenario).Agents. -/
theorem agents (B scb r c : Nat) (S : Scn) (w : World) (hS : ScAt w B scb S) (hB : B ≤ w.heap.size) (hc : CutAt S r c) :
    Calls Yba.prog 26 #[.pointer (some ⟨scb, 0, none⟩), .int .i64 r] w fun e w' => ∃ v, e = .returned v ∧ HoldsL w B v (agL S c) ∧ Below w.heap.size w w' := by
  obtain ⟨pa, pc, p1, p2⟩ := hS.pl
  have lsb := hS.lt
  have lsw : scb < w.heap.size := by omega
  have hl := hS.f64
  have hln := hS.lens
  have hcl := hc.1
  obtain ⟨wb, hwb⟩ : ∃ wb, wb = (w.alloc (.cells #[.pointer (some ⟨scb, 0, none⟩)] 26)).alloc (.cells #[.int .i64 (r : Int)] 3) := ⟨_, rfl⟩
  have bb : Below w.heap.size w wb := by rw [hwb]; exact ((Below.refl _ w).alloc (Nat.le_refl _) _).alloc (by simp) _
  have hCap : Cap wb w.heap.size (w.heap.size + 1) scb r S pa pc := by
    refine ⟨?_, ?_, ?_, fun j f hf => ?_⟩
    · rw [hwb, World.cell?_alloc_past _ _ _ (by simp), World.cell?_alloc_at _ _ _ _ rfl]; rfl
    · rw [hwb, World.cell?_alloc_at _ _ _ _ (by simp)]; rfl
    · rw [bb.cell (p := ⟨scb, 10, none⟩) lsw]; exact p1
    · have hj := (List.getElem?_eq_some_iff.1 hf).1
      obtain ⟨pb, off, e, lp, a, _⟩ := p2 j f _ hf (List.getElem?_eq_getElem (by omega))
      exact ⟨pb, off, e, by rw [bb.cell (p := ⟨pb, off + j * 2, none⟩) (by show pb < _; omega)]; exact a⟩
  have hse := search42 w.heap.size (w.heap.size + 1) scb r c pc S pa wb hCap hc hl
  have P2 : Hid _ := p2
  have BB : Hid (Below w.heap.size w wb) := bb
  have k1 := hCap.k1
  have kp := hCap.pl
  clear hCap hS hc p2 bb
  go_enter Yba.func26, Yba.ntmps26
  go_wp2_with fail
  rw [← hwb]
  clear hwb
  refine hse.mono ?_
  rintro e w1 ⟨rfl, q, rfl⟩
  have BQ : Hid (∀ p, Below w.heap.size w (wb.drewN p)) := fun p => BB.out.trans ⟨rfl, rfl, rfl, Nat.le_refl _, fun _ _ => rfl⟩
  by_cases h0 : c = 0
  · subst h0
    rw [show ((0 : Nat) : Int) = 0 from rfl]
    go_wp2
    go_ret
    exact ⟨_, rfl, ⟨none, 0, rfl, fun i x hx => by simp [agL] at hx⟩, BQ.out q⟩
  · obtain ⟨k, rfl⟩ : ∃ k, c = k + 1 := ⟨c - 1, by omega⟩
    obtain ⟨pb, off, rfl, lp, a0, oa, oc, a1, a2⟩ := P2.out k _ _ (List.getElem?_eq_getElem (by omega)) (List.getElem?_eq_getElem (by omega))
    have e1 : wb.cell? ⟨pb, off + k * 2 + 1, none⟩ = some (.slice oa (S.ons[k]'(by omega)).length oc) := by rw [BB.out.cell (p := ⟨pb, off + k * 2 + 1, none⟩) (by show pb < _; omega)]; exact a1
    have HL : Hid (HoldsL w B (.slice oa (S.ons[k]'(by omega)).length oc) (agL S (k + 1))) := by
      have ea : agL S (k + 1) = S.ons[k]'(by omega) := by
        rw [agL, if_neg (by omega), List.getD_eq_getElem?_getD, show k + 1 - 1 = k by omega, List.getElem?_eq_getElem (by omega)]; rfl
      rw [ea]
      exact ⟨oa, oc, rfl, fun i x hx => by obtain ⟨ob, oo, e, lo, q⟩ := a2 i x hx; exact ⟨ob, oo, e, lo, q⟩⟩
    generalize (S.ons[k]'(by omega)).length = ll at *
    have b1 : (k : Int) < (S.froms.length : Int) := by omega
    have hnz : ¬ ((k : Int) + 1 = 0) := by omega
    clear a0 a1 a2 hse P2 h0
    rw [show ((k + 1 : Nat) : Int) = (k : Int) + 1 by omega]
    go_wp2
    go_ret
    exact ⟨_, rfl, HL.out, BQ.out q⟩
end Go.Proofs.Ybulkvuk
