import Derived.Test.YbulkvukRSc
import Derived.Deep.AppendLies
namespace Go.Proofs.Ybulkvuk
open Go.RowKit
set_option linter.unusedVariables false

theorem info3 : (Yba.prog.info? 3).map (fun i => (i.zero, i.size, i.bytes)) = some (some (.int .i64 0), 1, 8) := by kernel_rfl

set_option maxRecDepth 100000 in
/-- (*Graph).Neighbours. -/
theorem neighbours (nb rb c n v ab cc : Nat) (hv : v < n) (hn : n ≤ 8) (w : World) (h0 : w.cell? ⟨nb, 0, none⟩ = some (.slice (some ⟨rb, 0, none⟩) n c)) (h1 : w.cell? ⟨rb, v, none⟩ = some (.slice (some ⟨ab, 0, none⟩) (n - 1) cc)) :
    Calls Yba.prog 47 #[.pointer (some ⟨nb, 0, none⟩), .int .i64 v] w fun e w' => e = .returned (.slice (some ⟨ab, 0, none⟩) (n - 1) cc) ∧ w' = w := by
  have b1 : (v : Int) < (n : Int) := by omega
  go_enter Yba.func47, Yba.ntmps47
  go_wp2
  go_ret
  exact ⟨rfl, rfl⟩

/-- What a process reaches: itself, then its neighbours. -/
def reachL (n p : Nat) : List Nat := p :: (List.range (n - 1)).map (nbr p)

theorem reachL_len (n p : Nat) (h : 1 ≤ n) : (reachL n p).length = n := by simp [reachL]; omega

set_option maxRecDepth 100000 in
/-- (*Forgery).reach. -/
theorem reach (fb B scb p : Nat) (S : Scn) (w : World) (hS : ScAt w B scb S) (hp : p < S.n) (hc : w.cell? ⟨fb, 0, none⟩ = some (.pointer (some ⟨scb, 0, none⟩))) :
    Calls Yba.prog 30 #[.pointer (some ⟨fb, 0, none⟩), .int .i64 p] w fun e w' => ∃ g cap, e = .returned (.slice (some ⟨g, 0, none⟩) S.n cap) ∧ w'.ownsRow w.heap.size 3 1 (.slice (some ⟨g, 0, none⟩) S.n cap) S.n ((reachL S.n p).map fun x : Nat => Value.int .i64 (x : Int)) ∧ Below w.heap.size w w' := by
  obtain ⟨nb, rb, c, l1, l2, q1, q2, q3⟩ := hS.net
  obtain ⟨ab, cc, l3, q4, q5⟩ := q3 p hp
  have h2 := hS.n2
  have h8 := hS.n8
  have lf := World.block_lt_of_cell? w _ hc
  have ls := World.block_lt_of_cell? w _ q1
  have ln := World.block_lt_of_cell? w _ q2
  have lr := World.block_lt_of_cell? w _ q4
  have la := World.block_lt_of_cell? w _ (q5 0 (by omega))
  simp only at lf ls ln lr la
  generalize hn : S.n = n at *
  obtain ⟨i0, hi0, hz0, hz1, hz2⟩ := info_parts info3
  have Q5 : Hid (∀ j, j < n - 1 → w.cell? ⟨ab, j, none⟩ = some (.int .i64 (nbr p j : Int))) := q5
  clear q5 q3 hS
  go_enter Yba.func30, Yba.ntmps30
  go_wp2_with fail
  refine (neighbours nb rb c n p ab cc hp h8 _ (by rw [World.cell?_alloc_past _ _ _ ln]; exact q2) (by rw [World.cell?_alloc_past _ _ _ lr]; exact q4)).mono ?_
  rintro e w1 ⟨rfl, rfl⟩
  have hown : Hid ((w.alloc (.cells #[.int .i64 (p : Int)] 3)).ownsRow w.heap.size 3 1 (.slice (some ⟨w.heap.size, 0, none⟩) 1 1) 1 [.int .i64 (p : Int)]) := World.ownsRow_lit w #[.int .i64 (p : Int)] 1 (Nat.le_refl _) (by decide) rfl
  go_wp2_with (at_builtin; refine wpList_append_lies _ rfl _ _ 27 rfl w.heap.size 3 i0 (.int .i64 0) 1 8 Yba.underlying27 hi0 hz0 hz1 hz2 rfl (by decide) (.slice (some ⟨w.heap.size, 0, none⟩) 1 1) 1 [.int .i64 (p : Int)] rfl hown.out ⟨ab, 0, none⟩ (n - 1) cc ((List.range (n - 1)).map fun j => Value.int .i64 (nbr p j : Int)) rfl ?c0 ?c1 ?c2 ?c3 ?c4 ?c5 ?c6 (w.heap.size + 1) (by simp) ?_)
  case c0 => simp
  case c1 =>
    intro u v hv
    have hu : u < n - 1 := by have := (List.getElem?_eq_some_iff.1 hv).1; simpa using this
    simp [hu] at hv
    subst hv
    rw [Addr.add_lit, Nat.zero_add, World.cell?_alloc_past _ _ _ (by exact la)]
    exact Q5.out u hu
  case c2 =>
    intro v hv
    obtain ⟨i, _, rfl⟩ := List.mem_map.1 hv
    rfl
  case c3 => omega
  case c4 => unfold maxLen; omega
  case c5 => omega
  case c6 => simp
  intro g cap w4 hown4 hgrow hat hlt
  have e1 : 1 + (n - 1) = n := by omega
  rw [e1] at hown4
  rw [e1]
  go_wp2
  go_ret
  refine ⟨g, cap, rfl, ?_, ?_⟩
  · have : (reachL n p).map (fun x : Nat => Value.int .i64 (x : Int)) = [Value.int .i64 (p : Int)] ++ (List.range (n - 1)).map fun j => Value.int .i64 (nbr p j : Int) := by
      simp [reachL]
    rw [this]; exact hown4
  · exact ((Below.refl _ w).alloc (Nat.le_refl _) _).grown hgrow (by simp) (fun k hk => by simp [Value.ownBlock] at hk; omega)
end Go.Proofs.Ybulkvuk
