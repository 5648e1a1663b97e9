import Derived.Test.YbulkvukRBld
namespace Go.Proofs.Ybulkvuk
open Go.RowKit
set_option linter.unusedVariables false

set_option maxRecDepth 100000 in
set_option maxHeartbeats 1000000 in
/-- zzs1102atoobig. -/
theorem toobig (P : List (Nat × List Nat)) (C : List Nat) (pa ca : Option Addr) (pc cc : Nat) (w : World) (hP : PlAt w pa P) :
    Calls Yba.prog 7 #[.slice pa P.length pc, .slice ca C.length cc] w fun e w' => ∃ b, e = .returned (.bool b) ∧ (b = false → P.length ≤ 64 ∧ C.length ≤ 256 ∧ ∀ p ∈ P, p.2.length ≤ 256) ∧ Below w.heap.size w w' := by
  by_cases h1 : P.length ≤ 64
  · have b1 : ¬ ((64 : Int) < (P.length : Int)) := by omega
    by_cases h2 : C.length ≤ 256
    · have b2 : ¬ ((256 : Int) < (C.length : Int)) := by omega
      go_enter Yba.func7, Yba.ntmps7
      go_wp2
      go_loopw [17] (fun c wr => ∃ i : Nat, i ≤ P.length ∧ c = .int .i64 i ∧ Below w.heap.size w wr ∧ ∀ p ∈ P.take i, p.2.length ≤ 256) (fun c _ => P.length - (intOf c).toNat)
      case atStart => exact ⟨0, Nat.zero_le _, rfl, Below.refl _ _, fun p hp => by simp at hp⟩
      case round =>
        obtain ⟨i, hi, rfl, hb, hall⟩ := hrel
        by_cases hil : i < P.length
        · have b3 : (i : Int) < (P.length : Int) := by omega
          obtain ⟨⟨g, l⟩, hp⟩ : ∃ p, P[i]? = some p := ⟨_, List.getElem?_eq_getElem hil⟩
          obtain ⟨hg, b, off, rfl, lb, q1, oa, oc, q2, _⟩ := hP.el i g l hp
          have d1 : wr.cell? ⟨b, off + i * 2, none⟩ = some (.int .u8 (g : Int)) := by rw [hb.cell (p := ⟨b, off + i * 2, none⟩) lb]; exact q1
          have d2 : wr.cell? ⟨b, off + i * 2 + 1, none⟩ = some (.slice oa l.length oc) := by rw [hb.cell (p := ⟨b, off + i * 2 + 1, none⟩) lb]; exact q2
          have HB : Hid (∀ o, Below w.heap.size w (wr.alloc o)) := fun o => hb.alloc hb.size o
          clear q1 q2
          by_cases hl : l.length ≤ 256
          · have b4 : ¬ ((256 : Int) < (l.length : Int)) := by omega
            have HA : Hid (∀ p ∈ P.take (i + 1), p.2.length ≤ 256) := fun p hp' => by
              rw [List.take_add_one, hp] at hp'
              simp at hp'
              rcases hp' with hp' | rfl
              · exact hall p hp'
              · exact hl
            clear hP hall hp
            go_wp2
            go_roundw
            case rel => exact ⟨i + 1, by omega, by go_num, HB.out _, HA.out⟩
            case measure => simp [intOf]; omega
          · have b4 : (256 : Int) < (l.length : Int) := by omega
            clear hP hall hp
            go_wp2
            go_ret
            exact ⟨_, rfl, fun h => (by cases h), HB.out _⟩
        · obtain rfl : i = P.length := by omega
          rw [List.take_length] at hall
          have HA : Hid (∀ p ∈ P, p.2.length ≤ 256) := hall
          clear hP hall
          go_wp2
          go_ret
          exact ⟨_, rfl, fun _ => ⟨h1, h2, HA.out⟩, hb⟩
    · have b2 : (256 : Int) < (C.length : Int) := by omega
      go_enter Yba.func7, Yba.ntmps7
      go_wp2
      go_ret
      exact ⟨rfl, Below.refl _ _⟩
  · have b1 : (64 : Int) < (P.length : Int) := by omega
    go_enter Yba.func7, Yba.ntmps7
    go_wp2
    go_ret
    exact ⟨_, rfl, fun h => (by cases h), Below.refl _ _⟩
end Go.Proofs.Ybulkvuk
