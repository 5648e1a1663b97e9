import Derived.Test.YbulkvukCmp
import Derived.WalkKit
import Derived.Deep.RegionHeld3
import Derived.Deep.DrawnRows
namespace Go.Proofs.Ybulkvuk
open Go.RowKit
set_option linter.unusedVariables false
attribute [local go_sem ↓] Go.wp_at_zero Go.wp_at_succ

set_option maxHeartbeats 1000000 in
/-- The comparison that Number hands to the search: some int; nothing that was there has turned. -/
theorem clo39 (bt tb g m cap n : Nat) (hn : n < m) (hm : m ≤ 1000) (a b : Int) (s : ByteArray) (x y : Int) (z : ByteArray) (w : World)
    (hbox : w.cell? ⟨bt, 0, none⟩ = some (.pointer (some ⟨tb, 0, none⟩)))
    (h0 : w.cell? ⟨tb, 0, none⟩ = some (.func (.func 18) #[] #[]))
    (h1 : w.cell? ⟨tb, 1, none⟩ = some (.slice (some ⟨g, 0, none⟩) m cap))
    (c0 : w.cell? ⟨g, n * 3, none⟩ = some (.int .i64 x)) (c1 : w.cell? ⟨g, n * 3 + 1, none⟩ = some (.int .i64 y)) (c2 : w.cell? ⟨g, n * 3 + 1 + 1, none⟩ = some (.string z)) :
    Calls Yba.prog 39 #[.int .i64 n, msgV a b s, .pointer (some ⟨bt, 0, none⟩)] w fun e w' => (∃ r : Int, e = .returned (.int .i64 r)) ∧ Below w.heap.size w w' := by
  have i0 : (0 : Int) ≤ (n : Int) := by omega
  have i1 : (n : Int) < (m : Int) := by omega
  have n0 := World.new_ne w _ hbox
  have n1 := World.new_ne w _ h0
  have n2 := World.new_ne w _ c0
  have l0 := World.block_lt_of_cell? w _ hbox
  have l1 := World.block_lt_of_cell? w _ h0
  have l2 := World.block_lt_of_cell? w _ c0
  simp only at n0 n1 n2 l0 l1 l2
  go_enter Yba.func39, Yba.ntmps39
  go_wp2
  go_region_held3 (fun w' => w'.cell? ⟨bt, 0, none⟩ = some (.pointer (some ⟨tb, 0, none⟩)) ∧ w'.cell? ⟨tb, 0, none⟩ = some (.func (.func 18) #[] #[]) ∧ w'.cell? ⟨tb, 1, none⟩ = some (.slice (some ⟨g, 0, none⟩) m cap) ∧ w'.cell? ⟨g, n * 3, none⟩ = some (.int .i64 x) ∧ w'.cell? ⟨g, n * 3 + 1, none⟩ = some (.int .i64 y) ∧ w'.cell? ⟨g, n * 3 + 1 + 1, none⟩ = some (.string z) ∧ w'.cell? ⟨w.heap.size, 0, none⟩ = some (.int .i64 a) ∧ w'.cell? ⟨w.heap.size, 1, none⟩ = some (.int .i64 b) ∧ w'.cell? ⟨w.heap.size, 2, none⟩ = some (.string s))
    (first | go_keep | (refine ⟨?_, ?_, ?_, ?_, ?_, ?_, ?_, ?_, ?_⟩ <;> (rw [hb.cell] <;> first | (simp [*]; done) | (simp; omega))))
    (first
      | (go_at_call 18; refine (cmpMsgs _ _ _ _ _ _ _).mono ?_; rintro e w' ⟨⟨r, rfl⟩, hb⟩))
  go_wp2
  go_ret
  exact ⟨⟨_, rfl⟩, ((Below.refl w.heap.size w).alloc (Nat.le_refl _) _).drew.trans (hb.mono (by simp))⟩

/-- The cells of a list of messages. -/
def encM (M : List (Int × Int × ByteArray)) : List Value := M.flatMap fun x => [.int .i64 x.1, .int .i64 x.2.1, .string x.2.2]

theorem encM_length (M : List (Int × Int × ByteArray)) : (encM M).length = M.length * 3 := by
  induction M with
  | nil => rfl
  | cons x r ih => simp only [encM, List.flatMap_cons, List.length_append, List.length_cons, List.length_nil] at ih ⊢; omega

theorem encM_append (M N : List (Int × Int × ByteArray)) : encM (M ++ N) = encM M ++ encM N := by simp [encM]

theorem encM_at (M : List (Int × Int × ByteArray)) (n : Nat) (x y : Int) (z : ByteArray) (h : M[n]? = some (x, y, z)) :
    (encM M)[n * 3]? = some (.int .i64 x) ∧ (encM M)[n * 3 + 1]? = some (.int .i64 y) ∧ (encM M)[n * 3 + 1 + 1]? = some (.string z) := by
  induction M generalizing n with
  | nil => simp at h
  | cons q r ih =>
    cases n with
    | zero => simp at h; subst h; exact ⟨rfl, rfl, rfl⟩
    | succ n =>
      have := ih n (by simpa using h)
      simp only [encM, List.flatMap_cons] at this ⊢
      rw [show (n + 1) * 3 = 3 + n * 3 by omega]
      refine ⟨?_, ?_, ?_⟩
      · rw [List.getElem?_append_right (by simp)]; simpa using this.1
      · rw [List.getElem?_append_right (by simp; omega)]; simpa [show 3 + n * 3 + 1 - 3 = n * 3 + 1 by omega] using this.2.1
      · rw [List.getElem?_append_right (by simp; omega)]; simpa [show 3 + n * 3 + 1 + 1 - 3 = n * 3 + 1 + 1 by omega] using this.2.2

/-- The table in block tb: its messages M, its sorted numbers ns, each below their count; all in blocks from B on. -/
structure Tab (w : World) (B tb m : Nat) (vs ss : Value) (M : List (Int × Int × ByteArray)) (ns : List Int) : Prop where
  low : B ≤ tb
  blk : w.heap[tb]? = some (.cells #[.func (.func 18) #[] #[], vs, ss] 110 (0, 0))
  lenM : M.length = m
  lenN : ns.length = m
  rowV : w.ownsRow B 49 3 vs m (encM M)
  rowS : w.ownsRow B 3 1 ss m (ns.map (Value.int .i64))
  bnd : ∀ x ∈ ns, 0 ≤ x ∧ x < m
  nil : m = 0 → vs = .slice none 0 0 ∧ ss = .slice none 0 0

/-- The table, and a box in block bt that points to it. -/
def TabBox (w : World) (bt B tb m : Nat) (vs ss : Value) (M : List (Int × Int × ByteArray)) (ns : List Int) : Prop :=
  w.heap[bt]? = some (.cells #[.pointer (some ⟨tb, 0, none⟩)] 62 (0, 0)) ∧ Tab w B tb m vs ss M ns

theorem Below.grownBy {w w' : World} (h : Below w.heap.size w w') : w.grownBy w' none := ⟨h.os, h.tape, h.output, h.size, fun k hk _ => h.block k hk⟩

theorem ownsRow_below {w w' : World} {base : Nat} {e : TypeId} {size : Nat} {v : Value} {n : Nat} {xs : List Value} (h : w.ownsRow base e size v n xs) (hb : Below w.heap.size w w') : w'.ownsRow base e size v n xs :=
  h.kept (Below.grownBy hb) (by cases hv : v.ownBlock <;> simp)

theorem lt_of_heap {w : World} {b : Nat} {o : Obj} (h : w.heap[b]? = some o) : b < w.heap.size := (Array.getElem?_eq_some_iff.1 h).1

theorem Tab.below {w w' : World} {B tb m : Nat} {vs ss : Value} {M : List (Int × Int × ByteArray)} {ns : List Int} (h : Tab w B tb m vs ss M ns) (hb : Below w.heap.size w w') : Tab w' B tb m vs ss M ns := by
  obtain ⟨h0, h1, h2, h3, h4, h5, h6, h7⟩ := h
  exact ⟨h0, by rw [hb.block _ (lt_of_heap h1)]; exact h1, h2, h3, ownsRow_below h4 hb, ownsRow_below h5 hb, h6, h7⟩

theorem TabBox.below {w w' : World} {bt B tb m : Nat} {vs ss : Value} {M : List (Int × Int × ByteArray)} {ns : List Int} (h : TabBox w bt B tb m vs ss M ns) (hb : Below w.heap.size w w') : TabBox w' bt B tb m vs ss M ns :=
  ⟨by rw [hb.block _ (lt_of_heap h.1)]; exact h.1, h.2.below hb⟩

theorem TabBox.drew {w : World} {bt B tb m : Nat} {vs ss : Value} {M : List (Int × Int × ByteArray)} {ns : List Int} (h : TabBox w bt B tb m vs ss M ns) : TabBox w.drew bt B tb m vs ss M ns := h.below (Below.refl _ _).drew

/-- A row that is owned and not empty, written out. -/
theorem ownsRow_form {w : World} {base : Nat} {e : TypeId} {size : Nat} {v : Value} {n : Nat} {xs : List Value} (h : w.ownsRow base e size v n xs) (hn : 0 < n) :
    ∃ g cap, v = .slice (some ⟨g, 0, none⟩) n cap ∧ base ≤ g ∧ g < w.heap.size ∧ n ≤ cap ∧ cap ≤ maxLen := by
  rcases h.2 with ⟨_, h0⟩ | ⟨g, cap, cur, rfl, hb, hg, hnc, hcm, _⟩
  · omega
  · exact ⟨g, cap, rfl, hb, lt_of_heap hg, hnc, hcm⟩

theorem clo39B (bt B tb m n : Nat) (vs ss : Value) (M : List (Int × Int × ByteArray)) (ns : List Int) (hn : n < m) (hm : m ≤ 1000) (a b : Int) (s : ByteArray) (w : World) (hT : TabBox w bt B tb m vs ss M ns) :
    Calls Yba.prog 39 #[.int .i64 n, msgV a b s, .pointer (some ⟨bt, 0, none⟩)] w fun e w' => (∃ r : Int, e = .returned (.int .i64 r)) ∧ Below w.heap.size w w' := by
  obtain ⟨hbx, h0, h1, h2, h3, h4, h5, h6, h7⟩ := hT
  obtain ⟨g, cap, rfl, hg1, hg2, hg3, hg4⟩ := ownsRow_form h4 (by omega)
  obtain ⟨⟨x, y, z⟩, hx⟩ : ∃ q, M[n]? = some q := ⟨M[n]'(by omega), List.getElem?_eq_getElem (by omega)⟩
  obtain ⟨e0, e1, e2⟩ := encM_at M n x y z hx
  exact clo39 bt tb g m cap n hn hm a b s x y z w (by simp [World.cell?, hbx]) (by simp [World.cell?, h1]) (by simp [World.cell?, h1])
    (by rw [h4.cellAt _ (by omega)]; exact e0) (by rw [h4.cellAt _ (by omega)]; exact e1) (by rw [h4.cellAt _ (by omega)]; exact e2)
end Go.Proofs.Ybulkvuk
