import Derived.Test.YbulkvuyRows
import Derived.WalkKit
import Derived.ProofKit
import Derived.Laws.LoneSync
import Derived.LaidEqlPtr
namespace Go.Proofs.Ybulkvuy
open Go.ChangeShapes Go.WideShapes Go.ChangeAt Go.RowKit

theorem load14 {a : Addr} {x : Int} {w : World} (hc : w.cell? a = some (.int .i64 x)) : (callFunc 14 #[.pointer (some a)]).run Yba.prog w = .ok (.value (.int .i64 x)) w :=
  run_call_load Yba.func14 (by kernel_rfl) (by kernel_rfl) (by kernel_rfl) .i64 (by kernel_rfl) hc
theorem store15 {a : Addr} {y : Int} {w : World} (hc : (w.cell? a).isSome = true) (hz : w.frozen? a = false) : (callFunc 15 #[.pointer (some a), .int .i64 y]).run Yba.prog w = .ok (.value (.tuple #[])) (w.setCell a (.int .i64 y)) := by
  obtain ⟨u, hu⟩ := Option.isSome_iff_exists.1 hc
  exact run_call_store Yba.func15 (by kernel_rfl) (by kernel_rfl) (by kernel_rfl) (by kernel_rfl) hu hz

theorem store_any (b o : Nat) (x : Int) (w : World) (hc : (w.cell? ⟨b, o, none⟩).isSome = true) (hz : w.frozen? ⟨b, o, none⟩ = false) :
    Calls Yba.prog 13 #[.pointer (some ⟨b, o, none⟩), .int .i64 x] w fun e w' => e = .returned (.tuple #[]) ∧ w' = w.setCell ⟨b, o, none⟩ (.int .i64 x) := by
  have h := store15 (y := x) hc hz
  clear hc
  go_enter Yba.func13, Yba.ntmps13
  go_wp2
  go_end0
  exact ⟨rfl, rfl⟩

theorem load_any (b o : Nat) (x : Int) (w : World) (hc : w.cell? ⟨b, o, none⟩ = some (.int .i64 x)) :
    Calls Yba.prog 11 #[.pointer (some ⟨b, o, none⟩)] w fun e w' => e = .returned (.int .i64 x) ∧ w' = w := by
  have h := load14 hc
  go_enter Yba.func11, Yba.ntmps11
  go_wp2
  go_ret
  exact ⟨rfl, rfl⟩

/-- The queue's block: its head, its tail, wokenDue and firstDue. -/
abbrev wq (hd tl : Option Addr) (a0 a4 : Int) : Obj :=
  .cells #[.int .i32 0, .pointer none, .pointer hd, .pointer tl, .int .i64 0, .int .i64 0, .int .i64 a0, .int .i64 a4] 46
/-- A waiter's block. -/
abbrev wt (pv nx : Option Addr) (d : Int) : Obj :=
  .cells #[.pointer pv, .pointer nx, .int .i64 d, .chan none, .int .u32 0] 53

theorem build_0 (a0 a1 a2 a3 a4 : Int) (h0 : 0 ≤ a1) (h1 : a1 ≤ 255) (hk : a1 % 3 = 0) (w : World) :
    Calls Yba.prog 8 #[.int .i64 a0, .int .u8 a1, .int .i64 a2, .int .i64 a3, .int .i64 a4] w fun e w' =>
      e = .returned (.tuple #[.pointer (some ⟨w.heap.size, 0, none⟩), .pointer none, .pointer none]) ∧ w' = w.alloc (wq none none a0 a4) := by
  go_enter Yba.func8, Yba.ntmps8
  go_wp2_with (first | (go_at_call 13; refine (store_any _ _ _ _ (by simp) (by simp)).mono ?_; rintro e w' ⟨rfl, rfl⟩))
  go_ret3
  exact ⟨rfl, rfl⟩

theorem build_1 (a0 a1 a2 a3 a4 : Int) (h0 : 0 ≤ a1) (h1 : a1 ≤ 255) (hk : a1 % 3 = 1) (w : World) :
    Calls Yba.prog 8 #[.int .i64 a0, .int .u8 a1, .int .i64 a2, .int .i64 a3, .int .i64 a4] w fun e w' =>
      e = .returned (.tuple #[.pointer (some ⟨w.heap.size, 0, none⟩), .pointer (some ⟨w.heap.size + 1, 0, none⟩), .pointer none]) ∧
      w' = (w.alloc (wq (some ⟨w.heap.size + 1, 0, none⟩) (some ⟨w.heap.size + 1, 0, none⟩) a0 a4)).alloc (wt none none a2) := by
  go_enter Yba.func8, Yba.ntmps8
  go_wp2_with (first | (go_at_call 13; refine (store_any _ _ _ _ (by simp) (by simp)).mono ?_; rintro e w' ⟨rfl, rfl⟩))
  go_ret3
  exact ⟨rfl, rfl⟩

theorem build_2 (a0 a1 a2 a3 a4 : Int) (h0 : 0 ≤ a1) (h1 : a1 ≤ 255) (hk : a1 % 3 = 2) (w : World) :
    Calls Yba.prog 8 #[.int .i64 a0, .int .u8 a1, .int .i64 a2, .int .i64 a3, .int .i64 a4] w fun e w' =>
      e = .returned (.tuple #[.pointer (some ⟨w.heap.size, 0, none⟩), .pointer (some ⟨w.heap.size + 1, 0, none⟩), .pointer (some ⟨w.heap.size + 1 + 1, 0, none⟩)]) ∧
      w' = ((w.alloc (wq (some ⟨w.heap.size + 1, 0, none⟩) (some ⟨w.heap.size + 1 + 1, 0, none⟩) a0 a4)).alloc (wt none (some ⟨w.heap.size + 1 + 1, 0, none⟩) a2)).alloc (wt (some ⟨w.heap.size + 1, 0, none⟩) none a3) := by
  go_enter Yba.func8, Yba.ntmps8
  go_wp2_with (first | (go_at_call 13; refine (store_any _ _ _ _ (by simp) (by simp)).mono ?_; rintro e w' ⟨rfl, rfl⟩))
  go_ret3
  exact ⟨rfl, rfl⟩

/-- publish, wokenDue not 0. -/
theorem publish_w (b : Nat) (a0 x : Int) (w : World) (hne : (a0 == 0) = false) (h6 : w.cell? ⟨b, 6, none⟩ = some (.int .i64 a0)) (h7 : w.cell? ⟨b, 7, none⟩ = some (.int .i64 x)) (hz : w.frozen? ⟨b, 7, none⟩ = false) :
    Calls Yba.prog 9 #[.pointer (some ⟨b, 0, none⟩)] w fun e w' => e = .returned (.tuple #[]) ∧ w' = w.setCell ⟨b, 7, none⟩ (.int .i64 a0) := by
  go_enter Yba.func9, Yba.ntmps9
  go_wp2_with (first | (go_at_call 13; refine (store_any _ _ _ _ (by simp [h7]) hz).mono ?_; rintro e w' ⟨rfl, rfl⟩))
  go_end0
  exact ⟨rfl, rfl⟩

/-- publish, wokenDue 0, nobody asleep. -/
theorem publish_n (b : Nat) (x : Int) (w : World) (h6 : w.cell? ⟨b, 6, none⟩ = some (.int .i64 0)) (h2 : w.cell? ⟨b, 2, none⟩ = some (.pointer none)) (h7 : w.cell? ⟨b, 7, none⟩ = some (.int .i64 x)) (hz : w.frozen? ⟨b, 7, none⟩ = false) :
    Calls Yba.prog 9 #[.pointer (some ⟨b, 0, none⟩)] w fun e w' => e = .returned (.tuple #[]) ∧ w' = w.setCell ⟨b, 7, none⟩ (.int .i64 0) := by
  go_enter Yba.func9, Yba.ntmps9
  go_wp2_with (first | (go_at_call 13; refine (store_any _ _ _ _ (by simp [h7]) hz).mono ?_; rintro e w' ⟨rfl, rfl⟩))
  go_end0
  exact ⟨rfl, rfl⟩

/-- publish, wokenDue 0, a sleeper at the head. -/
theorem publish_h (b c : Nat) (x d : Int) (w : World) (h6 : w.cell? ⟨b, 6, none⟩ = some (.int .i64 0)) (h2 : w.cell? ⟨b, 2, none⟩ = some (.pointer (some ⟨c, 0, none⟩))) (hd : w.cell? ⟨c, 2, none⟩ = some (.int .i64 d)) (h7 : w.cell? ⟨b, 7, none⟩ = some (.int .i64 x)) (hz : w.frozen? ⟨b, 7, none⟩ = false) :
    Calls Yba.prog 9 #[.pointer (some ⟨b, 0, none⟩)] w fun e w' => e = .returned (.tuple #[]) ∧ w' = w.setCell ⟨b, 7, none⟩ (.int .i64 d) := by
  go_enter Yba.func9, Yba.ntmps9
  go_wp2_with (first | (go_at_call 13; refine (store_any _ _ _ _ (by simp [h7]) hz).mono ?_; rintro e w' ⟨rfl, rfl⟩))
  go_end0
  exact ⟨rfl, rfl⟩

theorem eql27 (w : World) (a : Addr) : (binOp .eql 27 (.pointer (some a)) (.pointer (some a))).run Yba.prog w = .ok (.bool true) w := by
  obtain ⟨j, hj⟩ : ∃ j, Yba.prog.info? 53 = some j := Option.isSome_iff_exists.1 (by kernel_rfl)
  exact run_eql_ptr_same w a Yba.underlying27 hj

theorem neq27 (w : World) (a : Addr) : (binOp .neq 27 (.pointer (some a)) (.pointer (some a))).run Yba.prog w = .ok (.bool false) w := by
  obtain ⟨j, hj⟩ : ∃ j, Yba.prog.info? 53 = some j := Option.isSome_iff_exists.1 (by kernel_rfl)
  have h : ∀ d : Nat, (Op.equalIn (d + 1) 27 (.pointer (some a)) (.pointer (some a))).run Yba.prog w = .ok true w := fun d => by
    simp [Op.equalIn, run_underlying Yba.underlying27, sizeOf, typeInfo, hj, run_sameAddr_same]
  simp only [binOp]
  simp [Op.equal, Op.maxDepth, h 9999]

/-- A cell of the first of three new blocks. -/
theorem cell_three (w : World) (c : Array Value) (t : TypeId) (o2 o3 : Obj) (i : Nat) : (((w.alloc (.cells c t)).alloc o2).alloc o3).cell? ⟨w.heap.size, i, none⟩ = c[i]? := by
  rw [World.cell?_alloc_past _ _ _ (by simp; omega), World.cell?_alloc_past _ _ _ (by simp), World.cell?_alloc_at _ _ _ _ rfl]
theorem frozen_three (w : World) (c : Array Value) (t : TypeId) (o2 o3 : Obj) (i : Nat) : (((w.alloc (.cells c t)).alloc o2).alloc o3).frozen? ⟨w.heap.size, i, none⟩ = false := by
  rw [World.frozen?_alloc_past _ _ _ (by simp; omega), World.frozen?_alloc_past _ _ _ (by simp), World.frozen?_alloc_at _ _ _ _ rfl]
theorem cell_three2 (w : World) (c : Array Value) (t : TypeId) (o1 o3 : Obj) (i : Nat) : (((w.alloc o1).alloc (.cells c t)).alloc o3).cell? ⟨w.heap.size + 1, i, none⟩ = c[i]? := by
  rw [World.cell?_alloc_past _ _ _ (by simp), World.cell?_alloc_at _ _ _ _ (by simp)]
end Go.Proofs.Ybulkvuy
