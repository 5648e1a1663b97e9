import Derived.Test.YbulkvukTab
import Derived.WalkKit
import Derived.Deep.RegionHeld3
import Derived.Deep.DrawnRows
import Derived.Deep.QuietTactic
import Derived.BigQuiet
import Derived.WalkSmall
namespace Go.Proofs.Ybulkvuk
open Go.RowKit
set_option linter.unusedVariables false
attribute [local go_sem ↓] Go.wp_at_zero Go.wp_at_succ

set_option maxHeartbeats 1000000 in
theorem search (bt B tb m : Nat) (vs ss : Value) (M : List (Int × Int × ByteArray)) (ns : List Int) (hm : m ≤ 1000) (hm0 : 0 < m) (a b : Int) (s : ByteArray) (w : World) (hT : TabBox w bt B tb m vs ss M ns) :
    Calls Yba.prog 38 #[ss, msgV a b s, .func (.func 39) #[] #[.pointer (some ⟨bt, 0, none⟩)]] w fun e w' =>
      ∃ (i : Nat) (f : Bool), e = .returned (.tuple #[.int .i64 i, .bool f]) ∧ i ≤ m ∧ (f = true → i < m) ∧ Below w.heap.size w w' := by
  obtain ⟨gs, cs, hss, hg1, hg2, hg3, hg4⟩ := ownsRow_form hT.2.rowS hm0
  have hsc : ∀ k, k < m → ∃ x : Nat, x < m ∧ w.cell? ⟨gs, k, none⟩ = some (.int .i64 x) := by
    intro k hk
    obtain ⟨_, _, _, _, h3, _, h5, h6, _⟩ := hT
    have hl : ns[k]? = some (ns[k]'(by omega)) := List.getElem?_eq_getElem (by omega)
    have hb := h6 (ns[k]'(by omega)) (List.getElem_mem _)
    refine ⟨(ns[k]'(by omega)).toNat, by omega, ?_⟩
    rw [hss] at h5
    rw [h5.cellAt k (by omega), List.getElem?_map, hl]
    simp [Int.toNat_of_nonneg hb.1]
  subst hss
  unfold maxLen at hg4
  go_enter Yba.func38, Yba.ntmps38
  go_wp2
  go_loopw [9, 10] (fun u v wr => ∃ i j : Nat, i ≤ j ∧ j ≤ m ∧ u = .int .i64 i ∧ v = .int .i64 j ∧ Below (w.heap.size + 1) (w.alloc (.cells #[.int .i64 a, .int .i64 b, .string s] 49)) wr) (fun u v _ => (intOf v).toNat - (intOf u).toNat)
  case atStart => exact ⟨0, m, Nat.zero_le _, Nat.le_refl _, rfl, rfl, Below.refl _ _⟩
  case round =>
    obtain ⟨i, j, hij, hj, rfl, rfl, hbw⟩ := hrel
    have hWr : Below w.heap.size w wr := ((Below.refl w.heap.size w).alloc (Nat.le_refl _) _).trans (hbw.mono (by omega))
    have hTr := hT.below hWr
    have q0 : wr.cell? ⟨w.heap.size, 0, none⟩ = some (.int .i64 a) := by rw [hbw.cell (p := ⟨w.heap.size, 0, none⟩) (by simp), World.cell?_alloc_at _ _ _ _ rfl]; rfl
    have q1 : wr.cell? ⟨w.heap.size, 1, none⟩ = some (.int .i64 b) := by rw [hbw.cell (p := ⟨w.heap.size, 1, none⟩) (by simp), World.cell?_alloc_at _ _ _ _ rfl]; rfl
    have q2 : wr.cell? ⟨w.heap.size, 2, none⟩ = some (.string s) := by rw [hbw.cell (p := ⟨w.heap.size, 2, none⟩) (by simp), World.cell?_alloc_at _ _ _ _ rfl]; rfl
    have hsz : w.heap.size + 1 ≤ wr.heap.size := by have := hbw.size; simpa using this
    clear hT
    by_cases hlt : i < j
    · obtain ⟨h, hh⟩ : ∃ h : Nat, ((i : Int) + (j : Int)) / 2 = (h : Int) := ⟨(i + j) / 2, by omega⟩
      have hlo : i ≤ h := by omega
      have hhi : h < j := by omega
      obtain ⟨x, hx, hc⟩ := hsc h (by omega)
      have hcr : wr.cell? ⟨gs, h, none⟩ = some (.int .i64 x) := by rw [hWr.cell (p := ⟨gs, h, none⟩) hg2]; exact hc
      have b0 : (0 : Int) ≤ (h : Int) := by omega
      have b1 : (h : Int) < (m : Int) := by omega
      clear hsc hc
      go_wp2
      go_region_held3 (fun w' => w'.cell? ⟨gs, h, none⟩ = some (.int .i64 x) ∧ w'.cell? ⟨w.heap.size, 0, none⟩ = some (.int .i64 a) ∧ w'.cell? ⟨w.heap.size, 1, none⟩ = some (.int .i64 b) ∧ w'.cell? ⟨w.heap.size, 2, none⟩ = some (.string s))
        (first | (go_keep; done) | (refine ⟨?_, ?_, ?_, ?_⟩ <;> (rw [hb.cell] <;> first | (simp [*]; done) | (simp; omega))))
        (first
          | (go_at_call 39; refine (clo39B bt B tb m x vs _ M ns hx hm _ _ _ _ hTr.drew).mono ?_; rintro e w' ⟨⟨r, rfl⟩, hb⟩))
      have hbn : Below (w.heap.size + 1) (w.alloc (.cells #[.int .i64 a, .int .i64 b, .string s] 49)) w' := hbw.drew.trans (hb.mono (by simpa using hsz))
      clear hb hTr hWr
      go_wp2
      · go_roundw
        case rel => exact ⟨h + 1, j, by omega, hj, by go_num, rfl, hbn⟩
        case measure => simp [intOf]; omega
      · go_roundw
        case rel => exact ⟨i, h, by omega, by omega, rfl, rfl, hbn⟩
        case measure => simp [intOf]; omega
    · by_cases him : i < m
      · obtain ⟨x, hx, hc⟩ := hsc i (by omega)
        have hcr : wr.cell? ⟨gs, i, none⟩ = some (.int .i64 x) := by rw [hWr.cell (p := ⟨gs, i, none⟩) hg2]; exact hc
        have b0 : (0 : Int) ≤ (i : Int) := by omega
        have b1 : (i : Int) < (m : Int) := by omega
        have b2 : decide ((i : Int) < (m : Int)) = true := by simpa using b1
        clear hsc hc
        go_wp2
        go_region_held3 (fun w' => w'.cell? ⟨gs, i, none⟩ = some (.int .i64 x) ∧ w'.cell? ⟨w.heap.size, 0, none⟩ = some (.int .i64 a) ∧ w'.cell? ⟨w.heap.size, 1, none⟩ = some (.int .i64 b) ∧ w'.cell? ⟨w.heap.size, 2, none⟩ = some (.string s))
          (first | (go_keep; done) | (refine ⟨?_, ?_, ?_, ?_⟩ <;> (rw [hb.cell] <;> first | (simp [*]; done) | (simp; omega))))
          (first
            | (go_at_call 39; refine (clo39B bt B tb m x vs _ M ns hx hm _ _ _ _ hTr.drew).mono ?_; rintro e w' ⟨⟨r, rfl⟩, hb⟩))
        have hbn : Below w.heap.size w w' := hWr.drew.trans (hb.mono (by simpa using hWr.size))
        go_wp2
        go_ret2
        exact ⟨i, _, rfl, by omega, fun _ => him, hbn⟩
      · have b2 : decide ((i : Int) < (m : Int)) = false := by simpa using him
        clear hsc
        go_wp2
        go_quiet (fail)
        go_wp2
        go_ret2
        exact ⟨i, _, rfl, by omega, fun h => by simp at h, below_drewN hWr _⟩

/-- .. and at a table that holds nothing. -/
theorem search0 (a b : Int) (s : ByteArray) (f : Value) (w : World) :
    Calls Yba.prog 38 #[.slice none 0 0, msgV a b s, f] w fun e w' => e = .returned (.tuple #[.int .i64 (0 : Nat), .bool false]) ∧ Below w.heap.size w w' := by
  go_enter Yba.func38, Yba.ntmps38
  go_wp2
  refine wp_loop_rounds 1 ?_
  rw [rounds_succ]
  go_wp2
  go_quiet (fail)
  go_wp2
  go_ret2
  exact ⟨rfl, below_drewN ((Below.refl w.heap.size w).alloc (Nat.le_refl _) _) _⟩

theorem searchAny (bt B tb m : Nat) (vs ss : Value) (M : List (Int × Int × ByteArray)) (ns : List Int) (hm : m ≤ 1000) (a b : Int) (s : ByteArray) (w : World) (hT : TabBox w bt B tb m vs ss M ns) :
    Calls Yba.prog 38 #[ss, msgV a b s, .func (.func 39) #[] #[.pointer (some ⟨bt, 0, none⟩)]] w fun e w' =>
      ∃ (i : Nat) (f : Bool), e = .returned (.tuple #[.int .i64 i, .bool f]) ∧ i ≤ m ∧ (f = true → i < m) ∧ Below w.heap.size w w' := by
  by_cases h0 : m = 0
  · rw [(hT.2.nil h0).2]
    exact (search0 a b s _ w).mono fun e w' h => ⟨0, false, h.1, Nat.zero_le _, (fun h => by cases h), h.2⟩
  · exact search bt B tb m vs ss M ns hm (by omega) a b s w hT
end Go.Proofs.Ybulkvuk
