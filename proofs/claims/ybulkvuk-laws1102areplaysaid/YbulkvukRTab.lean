import Derived.Test.YbulkvukRAg
namespace Go.Proofs.Ybulkvuk
open Go.RowKit
set_option linter.unusedVariables false

/-- The law's own two tables: froms and ons, whole below B. -/
structure TabAt (w : World) (B : Nat) (fa oa : Option Addr) (fc oc : Nat) (S : Scn) : Prop where
  fr : ∀ (j f : Nat), S.froms[j]? = some f → ∃ b o, fa = some ⟨b, o, none⟩ ∧ b < B ∧ w.cell? ⟨b, o + j, none⟩ = some (.int .i64 (f : Int))
  on : ∀ (j : Nat) (l : List Nat), S.ons[j]? = some l → ∃ b o, oa = some ⟨b, o, none⟩ ∧ b < B ∧ ∃ ra rc, w.cell? ⟨b, o + j, none⟩ = some (.slice ra l.length rc) ∧ ∀ (i x : Nat), l[i]? = some x → ∃ ob oo, ra = some ⟨ob, oo, none⟩ ∧ ob < B ∧ w.cell? ⟨ob, oo + i, none⟩ = some (.int .i64 (x : Int))

theorem TabAt.below {w w' : World} {B : Nat} {fa oa : Option Addr} {fc oc : Nat} {S : Scn} (h : TabAt w B fa oa fc oc S) (hb : Below B w w') : TabAt w' B fa oa fc oc S := by
  have cc : ∀ {b o v}, b < B → w.cell? ⟨b, o, none⟩ = some v → w'.cell? ⟨b, o, none⟩ = some v := fun hl hc => by rw [hb.cell (by exact hl)]; exact hc
  refine ⟨fun j f hf => ?_, fun j l hl => ?_⟩
  · obtain ⟨b, o, e, lb, q⟩ := h.fr j f hf
    exact ⟨b, o, e, lb, cc lb q⟩
  · obtain ⟨b, o, e, lb, ra, rc, q, r⟩ := h.on j l hl
    refine ⟨b, o, e, lb, ra, rc, cc lb q, fun i x hx => ?_⟩
    obtain ⟨ob, oo, e2, lo, k⟩ := r i x hx
    exact ⟨ob, oo, e2, lo, cc lo k⟩

set_option maxRecDepth 100000 in
/-- zzs1102aagents. -/
theorem aagents (B r c fc oc : Nat) (fa oa : Option Addr) (S : Scn) (w : World) (h : TabAt w B fa oa fc oc S) (hc : CutAt S r c) (hl : S.froms.length ≤ 64) (hln : S.ons.length = S.froms.length) :
    Calls Yba.prog 12 #[.slice fa S.froms.length fc, .slice oa S.froms.length oc, .int .i64 r] w fun e w' => ∃ v, e = .returned v ∧ HoldsL w B v (agL S c) ∧ w' = w := by
  have hcl := hc.1
  go_enter Yba.func12, Yba.ntmps12
  go_wp2
  go_loopw [7, 11] (fun s7 s11 wr => ∃ i : Nat, i ≤ S.froms.length ∧ s11 = .int .i64 i ∧ HoldsL w B s7 (agL S (min i c)) ∧ wr = w) (fun _ s11 _ => S.froms.length - (intOf s11).toNat)
  case atStart => exact ⟨0, Nat.zero_le _, rfl, ⟨none, 0, by simp [agL], fun i x hx => by simp [agL] at hx⟩, rfl⟩
  case round =>
    obtain ⟨i, hi, rfl, hh, rfl⟩ := hrel
    by_cases hil : i < S.froms.length
    · obtain ⟨f, hf⟩ : ∃ f, S.froms[i]? = some f := ⟨_, List.getElem?_eq_getElem hil⟩
      obtain ⟨l, hlo⟩ : ∃ l, S.ons[i]? = some l := ⟨_, List.getElem?_eq_getElem (by omega)⟩
      obtain ⟨fbk, fo, rfl, _, q1⟩ := h.fr i f hf
      obtain ⟨obk, oo, rfl, _, ra, rc, q2, q3⟩ := h.on i l hlo
      have hcut := hc.2 i f hf
      have b1 : (i : Int) < (S.froms.length : Int) := by omega
      have HN : Hid (i < c → HoldsL wr B (.slice ra l.length rc) (agL S (min (i + 1) c))) := fun hic => by
        have ea : agL S (min (i + 1) c) = l := by
          rw [Nat.min_eq_left (by omega), agL, if_neg (by omega), List.getD_eq_getElem?_getD, show i + 1 - 1 = i by omega, hlo]; rfl
        rw [ea]
        exact ⟨ra, rc, rfl, fun j x hx => by obtain ⟨ob, o2, e, lo, q⟩ := q3 j x hx; exact ⟨ob, o2, e, lo, q⟩⟩
      have HO : Hid (¬ i < c → agL S (min (i + 1) c) = agL S (min i c)) := fun hic => by
        rw [Nat.min_eq_right (by omega), Nat.min_eq_right (by omega)]
      have HHh : Hid _ := hh
      generalize l.length = ll at *
      by_cases hic : i < c
      · have b2 : (f : Int) ≤ (r : Int) := by have := hcut.2 hic; omega
        clear hcut q3 hf hlo h hc
        go_wp2
        go_roundw
        case rel => exact ⟨i + 1, by omega, by go_num, HN.out hic, trivial⟩
        case measure => simp [intOf]; omega
      · have b2 : ¬ ((f : Int) ≤ (r : Int)) := fun hx => hic (hcut.1 (by omega))
        clear hcut q3 hf hlo h hc
        go_wp2
        go_roundw
        case rel => exact ⟨i + 1, by omega, by go_num, by rw [HO.out hic]; exact HHh.out, trivial⟩
        case measure => simp [intOf]; omega
    · obtain rfl : i = S.froms.length := by omega
      rw [Nat.min_eq_right hcl] at hh
      have HHh : Hid _ := hh
      clear hh
      go_wp2
      go_ret
      exact ⟨_, rfl, HHh.out, rfl⟩
end Go.Proofs.Ybulkvuk
