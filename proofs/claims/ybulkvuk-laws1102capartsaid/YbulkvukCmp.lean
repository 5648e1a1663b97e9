import Derived.Test.YbulkvukRows
import Derived.WalkKit
import Derived.WalkLawsBesides
import Derived.Deep.RegionHeld3
import Derived.Deep.DrawnRows
namespace Go.Proofs.Ybulkvuk
open Go.RowKit
attribute [local go_sem ↓] Go.wp_at_zero Go.wp_at_succ

/-- cmp.Compare at int: some int; the world is as it was. -/
theorem cmpInt (x y : Int) (w : World) : Calls Yba.prog 36 #[.int .i64 x, .int .i64 y] w fun e w' => (∃ r : Int, e = .returned (.int .i64 r)) ∧ w = w' := by
  go_enter Yba.func36, Yba.ntmps36
  go_wp2
  all_goals go_ret
  all_goals exact ⟨⟨_, rfl⟩, rfl⟩

theorem cmpStr (x y : ByteArray) (w : World) : Calls Yba.prog 37 #[.string x, .string y] w fun e w' => (∃ r : Int, e = .returned (.int .i64 r)) ∧ w = w' := by
  go_enter Yba.func37, Yba.ntmps37
  go_wp2
  all_goals go_ret
  all_goals exact ⟨⟨_, rfl⟩, rfl⟩

/-- cmp.Or at three ints. -/
theorem cmpOr (b : Nat) (r0 r1 r2 : Int) (w : World) (hb : w.heap[b]? = some (.cells #[.int .i64 r0, .int .i64 r1, .int .i64 r2] 3 (0, 0))) :
    Calls Yba.prog 35 #[.slice (some ⟨b, 0, none⟩) 3 3] w fun e w' => (∃ r : Int, e = .returned (.int .i64 r)) ∧ w = w' := by
  have h0 : w.cell? ⟨b, 0, none⟩ = some (.int .i64 r0) := by simp [World.cell?, hb]
  have h1 : w.cell? ⟨b, 1, none⟩ = some (.int .i64 r1) := by simp [World.cell?, hb]
  have h2 : w.cell? ⟨b, 2, none⟩ = some (.int .i64 r2) := by simp [World.cell?, hb]
  clear hb
  go_enter Yba.func35, Yba.ntmps35
  go_wp2
  go_loop [8] (fun i => ∃ k : Nat, k ≤ 3 ∧ i = .int .i64 k) (fun i => 3 - (intOf i).toNat)
  case atStart => exact ⟨0, Nat.zero_le _, rfl⟩
  case round =>
    obtain ⟨k, hk, rfl⟩ := hrel
    rcases (show k = 0 ∨ k = 1 ∨ k = 2 ∨ k = 3 from by omega) with rfl | rfl | rfl | rfl
    all_goals
      go_wp2
    all_goals first
      | (go_ret; exact ⟨⟨_, rfl⟩, rfl⟩)
      | (go_round
         case rel => first | exact ⟨1, by omega, rfl⟩ | exact ⟨2, by omega, rfl⟩ | exact ⟨3, by omega, rfl⟩
         case measure => simp [intOf])

theorem cmpOrAt (b : Nat) (r0 r1 r2 : Int) (W : World) (hb : b = W.heap.size) :
    Calls Yba.prog 35 #[.slice (some ⟨b, 0, none⟩) 3 3] (W.alloc (.cells #[.int .i64 r0, .int .i64 r1, .int .i64 r2] 3)).drew fun e w' => (∃ r : Int, e = .returned (.int .i64 r)) ∧ (W.alloc (.cells #[.int .i64 r0, .int .i64 r1, .int .i64 r2] 3)).drew = w' := by
  subst hb
  exact cmpOr _ r0 r1 r2 _ (heap_alloc_new W _)

/-- A message as a value. -/
abbrev msgV (a b : Int) (s : ByteArray) : Value := .agg #[.int .i64 a, .int .i64 b, .string s]

set_option maxHeartbeats 1000000 in
/-- scenario.CompareMessages: some int; nothing that was there has turned. -/
theorem cmpMsgs (a b : Int) (s : ByteArray) (a' b' : Int) (s' : ByteArray) (w : World) :
    Calls Yba.prog 18 #[msgV a b s, msgV a' b' s'] w fun e w' => (∃ r : Int, e = .returned (.int .i64 r)) ∧ Below w.heap.size w w' := by
  go_enter Yba.func18, Yba.ntmps18
  go_wp2
  go_region_held3 (fun w' => w'.cell? ⟨w.heap.size, 0, none⟩ = some (.int .i64 a) ∧ w'.cell? ⟨w.heap.size, 1, none⟩ = some (.int .i64 b) ∧ w'.cell? ⟨w.heap.size, 2, none⟩ = some (.string s) ∧ w'.cell? ⟨w.heap.size + 1, 0, none⟩ = some (.int .i64 a') ∧ w'.cell? ⟨w.heap.size + 1, 1, none⟩ = some (.int .i64 b') ∧ w'.cell? ⟨w.heap.size + 1, 2, none⟩ = some (.string s'))
    (go_keep)
    (first
      | (go_at_call 36; refine (cmpInt _ _ _).mono ?_; rintro e w' ⟨⟨r, rfl⟩, rfl⟩)
      | (go_at_call 37; refine (cmpStr _ _ _).mono ?_; rintro e w' ⟨⟨r, rfl⟩, rfl⟩)
      | (go_at_call 35; refine (cmpOrAt _ _ _ _ _ (by simp)).mono ?_; rintro e w' ⟨⟨r, rfl⟩, rfl⟩))
  go_wp2
  go_ret
  exact ⟨⟨_, rfl⟩, ((((Below.refl _ _).alloc (Nat.le_refl _) _).alloc (by simp) _).alloc (by simp; omega) _).drew⟩
end Go.Proofs.Ybulkvuk
