import Derived.Test.YbulkvukRBig
import Derived.Test.YbulkvukRFold
namespace Go.Proofs.Ybulkvuk
open Go.RowKit
set_option linter.unusedVariables false

theorem info54 : (Yba.prog.info? 54).map (fun i => (i.zero, i.size, i.bytes)) = some (some (.agg #[.int .i64 0, .int .i64 0, .int .i64 0, .string ⟨#[]⟩]), 4, 40) := by kernel_rfl
theorem info89 : (Yba.prog.info? 89).map (fun i => (i.zero, i.size, i.bytes)) = some (some (.agg #[.int .i64 0, .slice none 0 0]), 2, 32) := by kernel_rfl

/-- i casts are laid. -/
structure BS (w wr : World) (i : Nat) (C : List Nat) (bv : Value) (T : List (Int × Int × List UInt8)) : Prop where
  own : wr.ownsRow w.heap.size 54 4 bv i (T.flatMap fun t => [Value.int .i64 1, .int .i64 t.1, .int .i64 t.2.1, strV t.2.2])
  el : T.map (fun t => t.2.2) = (C.take i).map fun c => tabL (c % 4)
  tab : ∀ k, k < 4 → wr.cell? ⟨w.heap.size, k, none⟩ = some (strV (tabL k))
  bel : Below w.heap.size w wr
  gt : ∀ g, bv.ownBlock = some g → g ≠ w.heap.size

theorem newsL (W : World) (t : TypeId) (l : List Value) : ∀ j u, l[j]? = some u → (W.alloc (.cells l.toArray t)).cell? ((⟨W.heap.size, 0, none⟩ : Addr).add j) = some u := by
  intro j u hj
  rw [Addr.add_lit, Nat.zero_add, World.cell?_alloc_at _ _ _ _ rfl]
  simpa using hj
theorem one1 {v : Value} (h : v.oneCell' = true) : ∀ u ∈ [v], u.oneCell' = true := by intro u hu; simp at hu; subst hu; exact h
theorem one2 {v v' : Value} (h : v.oneCell' = true) (h' : v'.oneCell' = true) : ∀ u ∈ [v, v'], u.oneCell' = true := by intro u hu; simp at hu; rcases hu with rfl | rfl; exact h; exact h'

theorem good_of_row {w : World} {g F cap n : Nat} {l : List Nat} (hR : RowAt (Value.int .i64) w g 0 (l.map fun x => ((x % n : Nat) : Int))) (hg : F ≤ g) : Good w F (.slice (some ⟨g, 0, none⟩) l.length cap) (l.map (· % n)) := by
  refine ⟨_, _, by rw [List.length_map], fun i x hx => ⟨g, 0, rfl, hg, hR.lt, ?_⟩⟩
  rw [List.getElem?_map] at hx
  cases e : l[i]? with
  | none => rw [e] at hx; cases hx
  | some y =>
    rw [e] at hx
    cases hx
    exact hR.cell i _ (by rw [List.getElem?_map, e]; rfl)


theorem bld_fin (a0 a1 : Nat) {w wB wr wN : World} {P : List (Nat × List Nat)} {C : List Nat} {bv : Value} {F n : Nat} {T : List (Int × Int × List UInt8)} {T2 : List (Nat × Value × Value)} (hn : n = a0 % 7 + 2)
    (hl : P.length ≤ 64) (hcl : C.length ≤ 256) (hol : ∀ p ∈ P, p.2.length ≤ 256) (hB : BS w wB C.length C bv T) (hP : PS wB wr F n P.length P.length P T2) (hF : F = wB.heap.size) (hN : NC wr wN n n)
    (cs : Array Value) (h0 : cs[0]? = some (.int .i64 (n : Int))) (h2 : cs[2]? = some (.int .i64 ((a1 % 16 + 1 : Nat) : Int))) (h3 : cs[3]? = some (.pointer (some ⟨wr.heap.size + 1, 0, none⟩))) (h8 : cs[8]? = some bv) (h10 : cs[10]? = some (.slice (some ⟨F + 2, 0, none⟩) P.length P.length)) :
    ∀ wF, wF = wN.alloc (.cells cs 43) → ScAt wF wF.heap.size wN.heap.size (bldS a0 a1 P C) ∧ TabAt wF wF.heap.size (some ⟨F, 0, none⟩) (some ⟨F + 1, 0, none⟩) P.length P.length (bldS a0 a1 P C) ∧ Below w.heap.size w wF := by
  rintro wF rfl
  have sB := hB.bel.size
  have sz := hP.sz
  have szN := hN.sz
  have n2 : 2 ≤ n := by omega
  have n8 : n ≤ 8 := by omega
  have bF : Below wN.heap.size wN (wN.alloc (.cells cs 43)) := (Below.refl _ wN).alloc (Nat.le_refl _) _
  have bN : Below wr.heap.size wr (wN.alloc (.cells cs 43)) := hN.bel.trans (bF.mono (by omega))
  have bB : Below F wB (wN.alloc (.cells cs 43)) := hP.bel.trans (bN.mono (by omega))
  have bw : Below w.heap.size w (wN.alloc (.cells cs 43)) := hB.bel.trans (bB.mono (by omega))
  have sF : (wN.alloc (.cells cs 43)).heap.size = wN.heap.size + 1 := by simp
  have atc : ∀ {k v}, cs[k]? = some v → (wN.alloc (.cells cs 43)).cell? ⟨wN.heap.size, k, none⟩ = some v := fun hv => by rw [World.cell?_alloc_at _ _ _ _ rfl]; exact hv
  have cN : ∀ {b o v}, wN.cell? ⟨b, o, none⟩ = some v → b < wN.heap.size ∧ (wN.alloc (.cells cs 43)).cell? ⟨b, o, none⟩ = some v := fun hc => by
    have lt := World.block_lt_of_cell? wN _ hc
    exact ⟨lt, by rw [bF.cell (by exact lt)]; exact hc⟩
  have cr : ∀ {b o v}, wr.cell? ⟨b, o, none⟩ = some v → b < wr.heap.size ∧ (wN.alloc (.cells cs 43)).cell? ⟨b, o, none⟩ = some v := fun hc => by
    have lt := World.block_lt_of_cell? wr _ hc
    exact ⟨lt, by rw [bN.cell (by exact lt)]; exact hc⟩
  have hT2 : ∀ {j : Nat}, j < P.length → ∃ t, T2[j]? = some t := fun hj => ⟨_, List.getElem?_eq_getElem (by rw [hP.len]; exact hj)⟩
  have frF : ∀ {j f : Nat}, (bldS a0 a1 P C).froms[j]? = some f → j < P.length ∧ f = frAt P j := fun {j f} hf => by
    have hj : j < P.length := by have := (List.getElem?_eq_some_iff.1 hf).1; simpa [bldS] using this
    simp [bldS, hj] at hf
    exact ⟨hj, hf.symm⟩
  have onF : ∀ {j : Nat} {l : List Nat}, (bldS a0 a1 P C).ons[j]? = some l → j < P.length ∧ ∃ g l0, P[j]? = some (g, l0) ∧ l = l0.map (· % n) := fun {j l} hlj => by
    have hj : j < P.length := by have := (List.getElem?_eq_some_iff.1 hlj).1; simpa [bldS] using this
    refine ⟨hj, P[j].1, P[j].2, by rw [List.getElem?_eq_getElem hj], ?_⟩
    simp [bldS, hj] at hlj
    rw [← hlj, hn]
  refine ⟨⟨by omega, by show 2 ≤ a0 % 7 + 2; omega, by show a0 % 7 + 2 ≤ 8; omega, by show a1 % 16 + 1 ≤ 16; omega, by simpa [bldS] using hcl, by simpa [bldS] using hl, by simp [bldS], fun l hl' => ?_, ?_, atc h2, ?_, ?_, ?_⟩, ⟨fun j f hf => ?_, fun j l hlj => ?_⟩, bw⟩
  · obtain ⟨p, hp, rfl⟩ := List.mem_map.1 hl'
    refine ⟨by rw [List.length_map]; exact hol p hp, fun x hx => ?_⟩
    obtain ⟨y, _, rfl⟩ := List.mem_map.1 hx
    show y % (a0 % 7 + 2) < a0 % 7 + 2
    exact Nat.mod_lt _ (by omega)
  · have : (bldS a0 a1 P C).n = n := by rw [hn]; rfl
    rw [this]; exact atc h0
  · refine ⟨wr.heap.size + 1, wr.heap.size, n, by omega, by omega, atc h3, ?_, fun v hv => ?_⟩
    · have : (bldS a0 a1 P C).n = n := by rw [hn]; rfl
      rw [this]; exact (cN hN.c0).2
    · have en : (bldS a0 a1 P C).n = n := by rw [hn]; rfl
      rw [en] at hv ⊢
      obtain ⟨ab, c, la, q, r⟩ := hN.done v hv
      have := (cN (r 0 (by omega))).1
      exact ⟨ab, c, by omega, (cN q).2, fun j hj => (cN (r j hj)).2⟩
  · have ep : (bldS a0 a1 P C).pays = T.map fun t => t.2.2 := by rw [hB.el, List.take_length]; rfl
    have elen : (bldS a0 a1 P C).pays.length = C.length := by simp [bldS]
    rcases hB.own.2 with ⟨rfl, h0⟩ | ⟨g, cap, cur, rfl, _⟩
    · refine ⟨none, 0, by rw [elen, h0]; exact atc h8, fun j p hp => ?_⟩
      have := (List.getElem?_eq_some_iff.1 hp).1
      omega
    · refine ⟨_, _, by rw [elen]; exact atc h8, fun j p hp => ⟨g, 0, rfl, ?_⟩⟩
      have lg := (hB.own.lt g rfl).2
      have hj : j < C.length := by have := (List.getElem?_eq_some_iff.1 hp).1; omega
      rw [ep, List.getElem?_map] at hp
      cases e : T[j]? with
      | none => rw [e] at hp; cases hp
      | some t =>
        rw [e] at hp
        cases hp
        have cell : ∀ c, c < 4 → (wN.alloc (.cells cs 43)).cell? ⟨g, 0 + j * 4 + c, none⟩ = [Value.int .i64 1, .int .i64 t.1, .int .i64 t.2.1, strV t.2.2][c]? := fun c hc => by
          rw [bB.cell (p := ⟨g, 0 + j * 4 + c, none⟩) (by show g < F; omega), Nat.zero_add, hB.own.cellAt (j * 4 + c) (by omega)]
          exact flatMap_at 4 _ (fun _ => rfl) T j c t e hc
        exact ⟨by omega, 1, t.1, t.2.1, cell 0 (by omega), cell 1 (by omega), cell 2 (by omega), cell 3 (by omega)⟩
  · have elen : (bldS a0 a1 P C).froms.length = P.length := by simp [bldS]
    refine ⟨_, _, by rw [elen]; exact atc h10, fun j f l hf hlj => ⟨F + 2, 0, rfl, by omega, ?_⟩⟩
    obtain ⟨hj, rfl⟩ := frF hf
    obtain ⟨_, g, l0, hp, rfl⟩ := onF hlj
    obtain ⟨t, ht⟩ := hT2 hj
    obtain ⟨q1, q2⟩ := hP.el j t ht
    obtain ⟨_, ra, rc, ev, q4⟩ := q2 g l0 hp
    have cell : ∀ c, c < 2 → (wN.alloc (.cells cs 43)).cell? ⟨F + 2, 0 + j * 2 + c, none⟩ = [Value.int .i64 (t.1 : Int), t.2.2][c]? := fun c hc => by
      rw [bN.cell (p := ⟨F + 2, 0 + j * 2 + c, none⟩) (by show F + 2 < _; omega), Nat.zero_add, hP.po.cellAt (j * 2 + c) (by omega)]
      exact flatMap_at 2 _ (fun _ => rfl) T2 j c t ht hc
    refine ⟨by rw [← q1]; exact cell 0 (by omega), ra, rc, by rw [← ev]; exact cell 1 (by omega), fun i x hx => ?_⟩
    obtain ⟨ob, oo, e2, _, lo, k⟩ := q4 i x hx
    exact ⟨ob, oo, e2, by omega, (cr k).2⟩
  · obtain ⟨hj, rfl⟩ := frF hf
    obtain ⟨t, ht⟩ := hT2 hj
    obtain ⟨q1, _⟩ := hP.el j t ht
    refine ⟨F, 0, rfl, by omega, ?_⟩
    rw [bN.cell (p := ⟨F, 0 + j, none⟩) (by show F < _; omega), Nat.zero_add, hP.fo.cellAt j (by omega), List.getElem?_map, ht, ← q1]; rfl
  · obtain ⟨hj, g, l0, hp, rfl⟩ := onF hlj
    obtain ⟨t, ht⟩ := hT2 hj
    obtain ⟨_, q2⟩ := hP.el j t ht
    obtain ⟨⟨ra, rc, ev, q4⟩, _⟩ := q2 g l0 hp
    refine ⟨F + 1, 0, rfl, by omega, ra, rc, ?_, fun i x hx => ?_⟩
    · rw [bN.cell (p := ⟨F + 1, 0 + j, none⟩) (by show F + 1 < _; omega), Nat.zero_add, hP.oo.cellAt j (by omega), List.getElem?_map, ht, ← ev]; rfl
    · obtain ⟨ob, oo, e2, _, lo, k⟩ := q4 i x hx
      exact ⟨ob, oo, e2, by omega, (cr k).2⟩

theorem bld_cut (a0 a1 : Nat) (P : List (Nat × List Nat)) (C : List Nat) (r : Nat) : CutAt (bldS a0 a1 P C) r (cutN (frAt P) r P.length) := by
  obtain ⟨hc, h⟩ := cutN_spec (frAt P) (frAt_lt P) r P.length
  refine ⟨by simpa [bldS] using hc, fun j f hf => ?_⟩
  have hj : j < P.length := by have := (List.getElem?_eq_some_iff.1 hf).1; simpa [bldS] using this
  simp [bldS, hj] at hf
  rw [← hf]; exact h j hj
end Go.Proofs.Ybulkvuk
