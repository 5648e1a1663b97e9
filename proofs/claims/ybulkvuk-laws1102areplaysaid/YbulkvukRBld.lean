import Derived.Test.YbulkvukRGrf
import Derived.Deep.DeepAppendRoom
namespace Go.Proofs.Ybulkvuk
open Go.RowKit
set_option linter.unusedVariables false

/-- What the law's places hold. -/
structure PlAt (w : World) (pa : Option Addr) (P : List (Nat × List Nat)) : Prop where
  el : ∀ (j g : Nat) (l : List Nat), P[j]? = some (g, l) → g < 256 ∧ ∃ b off, pa = some ⟨b, off, none⟩ ∧ b < w.heap.size ∧ w.cell? ⟨b, off + j * 2, none⟩ = some (.int .u8 (g : Int)) ∧
    ∃ oa oc, w.cell? ⟨b, off + j * 2 + 1, none⟩ = some (.slice oa l.length oc) ∧ ∀ (i x : Nat), l[i]? = some x → x < 256 ∧ ∃ ob oo, oa = some ⟨ob, oo, none⟩ ∧ ob < w.heap.size ∧ w.cell? ⟨ob, oo + i, none⟩ = some (.int .u8 (x : Int))
/-- What the law's casts hold. -/
def CsAt (w : World) (ca : Option Addr) (C : List Nat) : Prop := ∀ (j x : Nat), C[j]? = some x → x < 256 ∧ ∃ b off, ca = some ⟨b, off, none⟩ ∧ b < w.heap.size ∧ w.cell? ⟨b, off + j, none⟩ = some (.int .u8 (x : Int))

theorem PlAt.below {w w' : World} {pa : Option Addr} {P : List (Nat × List Nat)} (h : PlAt w pa P) (hb : Below w.heap.size w w') : PlAt w' pa P := by
  have s := hb.size
  have cc : ∀ {b o v}, b < w.heap.size → w.cell? ⟨b, o, none⟩ = some v → w'.cell? ⟨b, o, none⟩ = some v := fun hl hc => by rw [hb.cell (by exact hl)]; exact hc
  refine ⟨fun j g l hj => ?_⟩
  obtain ⟨h1, b, off, e, lb, q1, oa, oc, q2, q3⟩ := h.el j g l hj
  refine ⟨h1, b, off, e, by omega, cc lb q1, oa, oc, cc lb q2, fun i x hx => ?_⟩
  obtain ⟨h2, ob, oo, e2, lo, q4⟩ := q3 i x hx
  exact ⟨h2, ob, oo, e2, by omega, cc lo q4⟩
theorem CsAt.below {w w' : World} {ca : Option Addr} {C : List Nat} (h : CsAt w ca C) (hb : Below w.heap.size w w') : CsAt w' ca C := fun j x hj => by
  have s := hb.size
  obtain ⟨h1, b, off, e, lb, q1⟩ := h j x hj
  exact ⟨h1, b, off, e, by omega, by rw [hb.cell (p := ⟨b, off + j, none⟩) lb]; exact q1⟩

/-- build's table. -/
def tabL (k : Nat) : List UInt8 := if k = 0 then [97] else if k = 1 then [102, 111, 114, 103, 101, 100] else if k = 2 then [98] else [120]
def tabV : Array Value := #[.string ⟨#[97]⟩, .string ⟨#[102, 111, 114, 103, 101, 100]⟩, .string ⟨#[98]⟩, .string ⟨#[120]⟩]
theorem tab_at (k : Nat) (h : k < 4) : tabV[k]? = some (strV (tabL k)) := by
  match k, h with
  | 0, _ => rfl
  | 1, _ => rfl
  | 2, _ => rfl
  | 3, _ => rfl

def gapAt (P : List (Nat × List Nat)) (j : Nat) : Nat := (P[j]?.map (·.1)).getD 0
/-- The round of the j-th placement. -/
def frAt (P : List (Nat × List Nat)) : Nat → Nat
  | 0 => gapAt P 0 % 3
  | j + 1 => frAt P j + 1 + gapAt P (j + 1) % 4
theorem frAt_le (P : List (Nat × List Nat)) : ∀ j, frAt P j ≤ 2 + 4 * j
  | 0 => by rw [frAt]; omega
  | j + 1 => by have := frAt_le P j; rw [frAt]; omega
theorem frAt_lt (P : List (Nat × List Nat)) (j : Nat) : frAt P j < frAt P (j + 1) := by rw [frAt]; omega
def prevAt (P : List (Nat × List Nat)) : Nat → Nat
  | 0 => 0
  | j + 1 => frAt P j

/-- The scenario that build makes. -/
def bldS (a0 a1 : Nat) (P : List (Nat × List Nat)) (C : List Nat) : Scn :=
  { n := a0 % 7 + 2, rounds := a1 % 16 + 1, pays := C.map fun c => tabL (c % 4), froms := (List.range P.length).map (frAt P), ons := P.map fun p => p.2.map (· % (a0 % 7 + 2)) }

/-- v is a slice of l's numbers, at or above F. -/
def Good (w : World) (F : Nat) (v : Value) (l : List Nat) : Prop := ∃ ra rc, v = .slice ra l.length rc ∧ ∀ (i x : Nat), l[i]? = some x → ∃ ob oo, ra = some ⟨ob, oo, none⟩ ∧ F ≤ ob ∧ ob < w.heap.size ∧ w.cell? ⟨ob, oo + i, none⟩ = some (.int .i64 (x : Int))
theorem Good.tr {w w' : World} {F : Nat} {v : Value} {l : List Nat} {X : List Nat} (h : Good w F v l) (ht : Tr X w w') (hX : ∀ x ∈ X, x < F) : Good w' F v l := by
  obtain ⟨ra, rc, e, q⟩ := h
  refine ⟨ra, rc, e, fun i x hx => ?_⟩
  obtain ⟨ob, oo, e2, l1, l2, k⟩ := q i x hx
  exact ⟨ob, oo, e2, l1, Nat.lt_of_lt_of_le l2 ht.size, ht.cell k (fun hm => by have := hX _ hm; omega)⟩

theorem own_tr {X : List Nat} {w w' : World} {base e size g n cap : Nat} {xs : List Value} (h : w.ownsRow base e size (.slice (some ⟨g, 0, none⟩) n cap) n xs) (ht : Tr X w w') (hg : g ∉ X) : w'.ownsRow base e size (.slice (some ⟨g, 0, none⟩) n cap) n xs := by
  have lt := (h.lt g rfl).2
  refine ⟨h.1, ?_⟩
  rcases h.2 with ⟨h0, _⟩ | ⟨g', cap', cur, h0, hb, hgg, rest⟩
  · cases h0
  · cases h0
    exact .inr ⟨g, cap, cur, rfl, hb, (ht.block g lt hg).trans hgg, rest⟩
theorem own_base {w : World} {base base' e size g n cap : Nat} {xs : List Value} (h : w.ownsRow base e size (.slice (some ⟨g, 0, none⟩) n cap) n xs) (hb : base' ≤ g) : w.ownsRow base' e size (.slice (some ⟨g, 0, none⟩) n cap) n xs := by
  refine ⟨h.1, ?_⟩
  rcases h.2 with ⟨h0, _⟩ | ⟨g', cap', cur, h0, hb', hgg, rest⟩
  · cases h0
  · cases h0
    exact .inr ⟨g, cap, cur, rfl, hb, hgg, rest⟩
theorem Tr.of_grown {w w' : World} {g : Nat} (h : w.grownBy w' (some g)) : Tr [g] w w' := ⟨h.os, h.tape, h.output, h.size, fun k hk hx => h.block k hk (by simpa using hx)⟩

/-- i places are laid: the rows froms (block F), ons (F + 1), placements (F + 2). -/
structure PS (w wr : World) (F n i L : Nat) (P : List (Nat × List Nat)) (T : List (Nat × Value × Value)) : Prop where
  len : T.length = i
  fo : wr.ownsRow F 3 1 (.slice (some ⟨F, 0, none⟩) i L) i (T.map fun t => Value.int .i64 (t.1 : Int))
  oo : wr.ownsRow F 27 1 (.slice (some ⟨F + 1, 0, none⟩) i L) i (T.map fun t => t.2.1)
  po : wr.ownsRow F 89 2 (.slice (some ⟨F + 2, 0, none⟩) i L) i (T.flatMap fun t => [Value.int .i64 (t.1 : Int), t.2.2])
  el : ∀ (j : Nat) (t : Nat × Value × Value), T[j]? = some t → t.1 = frAt P j ∧ ∀ (g : Nat) (l : List Nat), P[j]? = some (g, l) → Good wr (F + 3) t.2.1 (l.map (· % n)) ∧ Good wr (F + 3) t.2.2 (l.map (· % n))
  bel : Below F w wr
  sz : F + 3 ≤ wr.heap.size

theorem PS.step {w wr w' : World} {F n i L : Nat} {P : List (Nat × List Nat)} {T : List (Nat × Value × Value)} {g : Nat} {l : List Nat} {ov cv : Value} (h : PS w wr F n i L P T) (hp : P[i]? = some (g, l)) (ht : Tr [F, F + 1, F + 2] wr w')
    (hf : w'.ownsRow F 3 1 (.slice (some ⟨F, 0, none⟩) (i + 1) L) (i + 1) ((T.map fun t => Value.int .i64 (t.1 : Int)) ++ [.int .i64 (frAt P i : Int)]))
    (ho : w'.ownsRow F 27 1 (.slice (some ⟨F + 1, 0, none⟩) (i + 1) L) (i + 1) ((T.map fun t => t.2.1) ++ [ov]))
    (hq : w'.ownsRow F 89 2 (.slice (some ⟨F + 2, 0, none⟩) (i + 1) L) (i + 1) ((T.flatMap fun t => [Value.int .i64 (t.1 : Int), t.2.2]) ++ [.int .i64 (frAt P i : Int), cv]))
    (h1 : Good w' (F + 3) ov (l.map (· % n))) (h2 : Good w' (F + 3) cv (l.map (· % n))) : PS w w' F n (i + 1) L P (T ++ [(frAt P i, ov, cv)]) := by
  have s := ht.size
  have sz := h.sz
  refine ⟨by rw [List.length_append, h.len]; rfl, by rw [List.map_append]; exact hf, by rw [List.map_append]; exact ho, ?_, fun j t hj => ?_, h.bel.trans (ht.below (by omega) (by simp)), by omega⟩
  · rw [List.flatMap_append]; simpa using hq
  · by_cases hji : j < i
    · rw [List.getElem?_append_left (by rw [h.len]; exact hji)] at hj
      obtain ⟨q1, q2⟩ := h.el j t hj
      refine ⟨q1, fun g' l' hg => ?_⟩
      obtain ⟨q3, q4⟩ := q2 g' l' hg
      have hX : ∀ x ∈ [F, F + 1, F + 2], x < F + 3 := by simp
      exact ⟨q3.tr ht hX, q4.tr ht hX⟩
    · have hlt := (List.getElem?_eq_some_iff.1 hj).1
      rw [List.length_append, h.len, List.length_singleton] at hlt
      obtain rfl : j = i := by omega
      rw [List.getElem?_append_right (by rw [h.len]; omega), h.len, Nat.sub_self] at hj
      simp at hj
      subst hj
      refine ⟨rfl, fun g' l' hg => ?_⟩
      rw [hp] at hg
      cases hg
      exact ⟨h1, h2⟩

/-- A list of blocks of k cells, at a place. -/
theorem flatMap_at {α : Type} (k : Nat) (f : α → List Value) (hf : ∀ x, (f x).length = k) : ∀ (L : List α) (j c : Nat) (x : α), L[j]? = some x → c < k → (L.flatMap f)[j * k + c]? = (f x)[c]?
  | [], j, c, x, h, _ => by simp at h
  | y :: L, 0, c, x, h, hc => by
    simp at h; subst h
    rw [List.flatMap_cons, Nat.zero_mul, Nat.zero_add, List.getElem?_append_left (by rw [hf]; exact hc)]
  | y :: L, j + 1, c, x, h, hc => by
    rw [List.getElem?_cons_succ] at h
    rw [List.flatMap_cons, List.getElem?_append_right (by rw [hf, Nat.succ_mul]; omega), hf, show (j + 1) * k + c - k = j * k + c by rw [Nat.succ_mul]; omega]
    exact flatMap_at k f hf L j c x h hc

theorem mono_of_lt (g : Nat → Nat) (hg : ∀ j, g j < g (j + 1)) (j : Nat) : ∀ d, g j ≤ g (j + d)
  | 0 => Nat.le_refl _
  | d + 1 => by have := mono_of_lt g hg j d; have := hg (j + d); rw [← Nat.add_assoc]; omega

/-- How many of the first n have begun by r. -/
def cutN (g : Nat → Nat) (r : Nat) : Nat → Nat
  | 0 => 0
  | n + 1 => if g n ≤ r then n + 1 else cutN g r n
theorem cutN_spec (g : Nat → Nat) (hg : ∀ j, g j < g (j + 1)) (r : Nat) : ∀ n : Nat, cutN g r n ≤ n ∧ ∀ j, j < n → (g j ≤ r ↔ j < cutN g r n)
  | 0 => ⟨Nat.le_refl _, fun j hj => by omega⟩
  | n + 1 => by
    obtain ⟨hc, h⟩ := cutN_spec g hg r n
    rw [cutN]
    by_cases hn : g n ≤ r
    · rw [if_pos hn]
      refine ⟨Nat.le_refl _, fun j hj => ⟨fun _ => hj, fun _ => ?_⟩⟩
      have := mono_of_lt g hg j (n - j)
      rw [show j + (n - j) = n by omega] at this
      omega
    · rw [if_neg hn]
      refine ⟨by omega, fun j hj => ?_⟩
      by_cases e : j = n
      · subst e; exact ⟨fun hx => absurd hx hn, fun hx => by omega⟩
      · exact h j (by omega)
end Go.Proofs.Ybulkvuk
