import Derived.Test.YbulkvukRCha
import Derived.Test.YbulkvukRows
import Derived.WalkKit
import Derived.Laws.Externs
import Derived.Laws.IdiomCopy
import Derived.Laws.Cells
import Derived.WalkSmall
namespace Go.Proofs.Ybulkvuk
open Go.RowKit
set_option linter.unusedVariables false

/-- The key of a block, out of the four words of the seed. -/
def keyOf (s0 s1 s2 s3 : Nat) : Array Nat := #[s0 % Extern.Chacha8Block.m32, s0 / Extern.Chacha8Block.m32, s1 % Extern.Chacha8Block.m32, s1 / Extern.Chacha8Block.m32, s2 % Extern.Chacha8Block.m32, s2 / Extern.Chacha8Block.m32, s3 % Extern.Chacha8Block.m32, s3 / Extern.Chacha8Block.m32]

theorem keyOf_ok {s0 s1 s2 s3 : Nat} (h0 : s0 < 18446744073709551616) (h1 : s1 < 18446744073709551616) (h2 : s2 < 18446744073709551616) (h3 : s3 < 18446744073709551616) : Ok8 (keyOf s0 s1 s2 s3) := by
  refine ⟨_, _, _, _, _, _, _, _, rfl, ?_⟩
  unfold Extern.Chacha8Block.m32
  omega

def blkCells (key : Array Nat) (c : Nat) : List Value := (List.range 32).map fun k => .int .u64 ((blockWord key c k : Nat) : Int)

/-- The model's entry for chacha8rand.block, at a generator in block gb. -/
theorem run_block {P : Program} (w : World) (gb c s0 s1 s2 s3 : Nat)
    (h0 : w.cell? ⟨gb, 32, none⟩ = some (.int .u64 s0)) (h1 : w.cell? ⟨gb, 33, none⟩ = some (.int .u64 s1)) (h2 : w.cell? ⟨gb, 34, none⟩ = some (.int .u64 s2)) (h3 : w.cell? ⟨gb, 35, none⟩ = some (.int .u64 s3))
    (hb : ∀ k, k < 32 → (w.cell? ⟨gb, k, none⟩).isSome = true) (hf : ∀ k, w.frozen? ⟨gb, k, none⟩ = false) :
    (Extern.Chacha8Block.block #[.pointer (some ⟨gb, 32, none⟩), .pointer (some ⟨gb, 0, none⟩), .int .u32 c]).run P w = .ok (.tuple #[]) (w.setCells gb 0 (blkCells (keyOf s0 s1 s2 s3) c)) := by
  have hl := run_loadCells_list (P := P) w ⟨gb, 32, none⟩ [.int .u64 (s0 : Int), .int .u64 (s1 : Int), .int .u64 (s2 : Int), .int .u64 (s3 : Int)] (by
    intro j v hj
    rw [Addr.add_lit]
    match j, hj with
    | 0, hj => simp at hj; subst hj; exact h0
    | 1, hj => simp at hj; subst hj; exact h1
    | 2, hj => simp at hj; subst hj; exact h2
    | 3, hj => simp at hj; subst hj; exact h3
    | j + 4, hj => simp at hj)
  have hst := run_storeCells_cells (P := P) gb 0 (blkCells (keyOf s0 s1 s2 s3) c) 0 w (fun j hj => by simp [blkCells] at hj; simpa using hb j hj) (fun j hj => by simpa using hf _) (fun v hv => by
    obtain ⟨k, _, rfl⟩ := List.mem_map.1 hv; rfl)
  have e : Extern.Chacha8Block.block #[.pointer (some ⟨gb, 32, none⟩), .pointer (some ⟨gb, 0, none⟩), .int .u32 c] = (do
      let s ← (← loadCells (← asAddr (.pointer (some ⟨gb, 32, none⟩))) 4).mapM fun c => do pure (← asInt c).toNat
      let key := s.flatMap fun x => #[x % Extern.Chacha8Block.m32, x / Extern.Chacha8Block.m32]
      let n := (← asInt (.int .u32 c)).toNat
      storeCells (← asAddr (.pointer (some ⟨gb, 0, none⟩))) ((List.range 32).map fun k => .int .u64 (Int.ofNat (laneWord key n (2 * k) + laneWord key n (2 * k + 1) * Extern.Chacha8Block.m32)))
      pure (.tuple #[])) := rfl
  rw [e]
  have hl' : (loadCells ⟨gb, 32, none⟩ 4).run P w = .ok #[.int .u64 (s0 : Int), .int .u64 (s1 : Int), .int .u64 (s2 : Int), .int .u64 (s3 : Int)] w := hl
  have hi : ∀ (k : IntKind) (x : Nat) (w : World), (asInt (.int k (x : Int))).run P w = .ok (x : Int) w := fun k x w => rfl
  have hm : (Array.mapM (fun c => do let z ← asInt c; pure z.toNat) #[Value.int .u64 (s0 : Int), .int .u64 (s1 : Int), .int .u64 (s2 : Int), .int .u64 (s3 : Int)]).run P w = .ok #[s0, s1, s2, s3] w := by
    rw [List.mapM_toArray, map_eq_pure_bind]
    simp only [List.mapM_cons, List.mapM_nil, Sem.run_bind, Sem.run_pure, hi, Result.andThen, Int.toNat_natCast]
  have hk : Array.flatMap (fun x => #[x % Extern.Chacha8Block.m32, x / Extern.Chacha8Block.m32]) #[s0, s1, s2, s3] = keyOf s0 s1 s2 s3 := by
    simp [keyOf, List.flatMap_toArray]
  have hst' : (storeCells ⟨gb, 0, none⟩ ((List.range 32).map fun k => .int .u64 (Int.ofNat (laneWord (keyOf s0 s1 s2 s3) c (2 * k) + laneWord (keyOf s0 s1 s2 s3) c (2 * k + 1) * Extern.Chacha8Block.m32)))).run P w = .ok () (w.setCells gb 0 (blkCells (keyOf s0 s1 s2 s3) c)) := hst
  simp only [Sem.run_bind, asAddr, Sem.run_pure, Result.andThen, hl', hm, hi, hk, Int.toNat_natCast, hst']
end Go.Proofs.Ybulkvuk
