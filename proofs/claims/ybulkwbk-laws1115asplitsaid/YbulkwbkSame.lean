import Derived.Test.YbulkwbkBuild
import Derived.Deep.QuietTactic
import Derived.BigQuiet
import Derived.WalkSmall
import Derived.LaidEqlPtr
namespace Go.Proofs.Ybulkwbk
open Go.RowKit
set_option linter.unusedVariables false

theorem neq25 (w : World) (a : Addr) : (binOp .neq 25 (.pointer (some a)) (.pointer (some a))).run Yba.prog w = .ok (.bool false) w := by
  obtain ⟨j, hj⟩ : ∃ j, Yba.prog.info? 43 = some j := Option.isSome_iff_exists.1 (by kernel_rfl)
  have h : ∀ d : Nat, (Op.equalIn (d + 1) 25 (.pointer (some a)) (.pointer (some a))).run Yba.prog w = .ok true w := fun d => by
    simp [Op.equalIn, run_underlying Yba.underlying25, sizeOf, typeInfo, hj, run_sameAddr_same]
  simp only [binOp]
  simp [Op.equal, Op.maxDepth, h 9999]

/-- A slice of pointers that holds the list L (its length is L's; where there is an element it has an address). -/
def Holds (w : World) (v : Value) (L : List Nat) : Prop :=
  ∃ ao c, v = .slice ao L.length c ∧ (0 < L.length → ∃ b o, ao = some ⟨b, o, none⟩ ∧ ∀ j x, L[j]? = some x → w.cell? ⟨b, o + j, none⟩ = some (pt x))

set_option maxHeartbeats 1000000 in
/-- zzs1115asame of two slices that hold the same pointers: true. -/
theorem same_any (va vb : Value) (L : List Nat) (hL : L.length ≤ 2000) (w : World) (ha : Holds w va L) (hb : Holds w vb L) :
    Calls Yba.prog 8 #[va, vb] w fun e w' => e = .returned (.bool true) ∧ ∃ q, w' = w.drewN q := by
  obtain ⟨aa, ca, rfl, ha⟩ := ha
  obtain ⟨ab, cb, rfl, hb⟩ := hb
  have hne := neq25
  generalize hn : L.length = n at *
  go_enter Yba.func8, Yba.ntmps8
  go_wp2
  go_loopw [5] (fun c wr => ∃ k q : Nat, k ≤ n ∧ c = .int .i64 k ∧ wr = w.drewN q) (fun c _ => n - (intOf c).toNat)
  case atStart => exact ⟨0, 0, Nat.zero_le _, rfl, rfl⟩
  case round =>
    obtain ⟨k, q, hk, rfl, rfl⟩ := hrel
    by_cases hkn : k < n
    · have b1 : (k : Int) < (n : Int) := by omega
      obtain ⟨b, o, rfl, h1⟩ := ha (by omega)
      obtain ⟨b', o', rfl, h2⟩ := hb (by omega)
      have hx : L[k]? = some (L[k]'(by omega)) := List.getElem?_eq_getElem (by omega)
      have c1 := h1 k _ hx
      have c2 := h2 k _ hx
      generalize L[k]'(by omega) = x at *
      have b0 : (0 : Int) ≤ (k : Int) := by omega
      clear h1 h2 ha hb hx
      go_wp2
      go_quiet (fail)
      go_wp2
      go_roundw
      case rel => exact ⟨k + 1, _, by omega, by go_num, rfl⟩
      case measure => simp [intOf]; omega
    · go_wp2
      go_ret
      exact ⟨rfl, q, rfl⟩
end Go.Proofs.Ybulkwbk
