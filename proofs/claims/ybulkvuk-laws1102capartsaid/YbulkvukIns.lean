import Derived.Test.YbulkvukTab
import Derived.Shelf.Spec.SlicesInsertGrow
namespace Go.Proofs.Ybulkvuk
open Go.RowKit Go.Shelf
set_option linter.unusedVariables false

/-! ### slices.Insert at []int: the shelf's contracts at this dump's numbers -/
def insRen : Ren := ⟨fun | 21 => 40 | 27 => 52 | 28 => 53 | 35 => 61 | 39 => 83 | n => n, fun | 22 => 27 | n => n, fun n => n⟩

theorem insLays : Lays2.n21 Yba.prog insRen :=
  { mixed := by kernel_rfl
    f21 := Yba.func40.trans (congrArg some (by kernel_rfl))
    f27 := Yba.func52.trans (congrArg some (by kernel_rfl))
    f28 := Yba.func53.trans (congrArg some (by kernel_rfl))
    f35 := Yba.func61.trans (congrArg some (by kernel_rfl))
    f39 := Yba.func83.trans (congrArg some (by kernel_rfl))
    t0 := Yba.underlying0, a0 := Yba.isAgg0, z0 := Yba.sizeOf0, v0 := Yba.zeroValue0
    t3 := Yba.underlying3, a3 := Yba.isAgg3, z3 := Yba.sizeOf3, v3 := Yba.zeroValue3
    t4 := Yba.underlying4, a4 := Yba.isAgg4, z4 := Yba.sizeOf4, v4 := Yba.zeroValue4
    t22 := Yba.underlying27, a22 := Yba.isAgg27, z22 := Yba.sizeOf27, v22 := Yba.zeroValue27
    i3 := by kernel_rfl }

/-! ### A block behind 'setCells' -/
def spl : Array Value → Nat → List Value → Array Value
  | c, _, [] => c
  | c, o, v :: r => spl (c.setIfInBounds o v) (o + 1) r

theorem spl_size : ∀ (vs : List Value) (c : Array Value) (o : Nat), (spl c o vs).size = c.size
  | [], _, _ => rfl
  | v :: r, c, o => by rw [spl, spl_size r]; simp

theorem spl_at : ∀ (vs : List Value) (c : Array Value) (o j : Nat), o + vs.length ≤ c.size → (spl c o vs)[j]? = if o ≤ j ∧ j < o + vs.length then vs[j - o]? else c[j]?
  | [], c, o, j, _ => by rw [spl, if_neg (by simp)]
  | v :: r, c, o, j, h => by
    simp only [List.length_cons] at h ⊢
    rw [spl, spl_at r _ _ _ (by simp; omega), Array.getElem?_setIfInBounds]
    by_cases h1 : o + 1 ≤ j ∧ j < o + 1 + r.length
    · rw [if_pos h1, if_pos (by omega), show j - o = (j - (o + 1)) + 1 by omega, List.getElem?_cons_succ]
    · rw [if_neg h1]
      by_cases h2 : o = j
      · subst h2; rw [if_pos rfl, if_pos (by omega), if_pos (by omega)]; simp
      · rw [if_neg h2, if_neg (by omega)]

theorem heap_setCells (g : Nat) (e : TypeId) (fz : Nat × Nat) : ∀ (vs : List Value) (o : Nat) (w : World) (c : Array Value), w.heap[g]? = some (.cells c e fz) → (w.setCells g o vs).heap[g]? = some (.cells (spl c o vs) e fz)
  | [], _, _, _, h => h
  | v :: r, o, w, c, h => by
    rw [World.setCells, spl]
    exact heap_setCells g e fz r (o + 1) _ _ (by simp [World.setCell, Array.getElem?_modify, h])

theorem heap_setCells_far (g k : Nat) (hk : k ≠ g) : ∀ (vs : List Value) (o : Nat) (w : World), (w.setCells g o vs).heap[k]? = w.heap[k]?
  | [], _, _ => rfl
  | v :: r, o, w => by rw [World.setCells, heap_setCells_far g k hk r]; exact Below.heap_setCell _ _ _ _ hk

theorem size_setCells (g : Nat) : ∀ (vs : List Value) (o : Nat) (w : World), (w.setCells g o vs).heap.size = w.heap.size
  | [], _, _ => rfl
  | v :: r, o, w => by rw [World.setCells, size_setCells g r]; simp [World.setCell]

theorem rest_setCells (g : Nat) : ∀ (vs : List Value) (o : Nat) (w : World), (w.setCells g o vs).os = w.os ∧ (w.setCells g o vs).tape = w.tape ∧ (w.setCells g o vs).output = w.output
  | [], _, _ => ⟨rfl, rfl, rfl⟩
  | v :: r, o, w => by rw [World.setCells]; exact rest_setCells g r (o + 1) _

theorem grownBy_setCells {w w1 : World} {row : Option Nat} (h : w.grownBy w1 row) (g o : Nat) (vs : List Value) (hg : some g = row ∨ w.heap.size ≤ g) : w.grownBy (w1.setCells g o vs) row := by
  obtain ⟨r1, r2, r3⟩ := rest_setCells g vs o w1
  refine ⟨r1.trans h.os, r2.trans h.tape, r3.trans h.output, by rw [size_setCells]; exact h.size, fun k hk hne => ?_⟩
  rw [heap_setCells_far g k (by rintro rfl; rcases hg with hg | hg; exact hne hg; omega)]
  exact h.block k hk hne

theorem grownBy_drew {w w1 : World} {row : Option Nat} (h : w.grownBy w1 row) : w.grownBy w1.drew row := ⟨h.os, h.tape, h.output, h.size, h.block⟩

theorem ownsRow_of {w : World} {B g cap e n : Nat} {cur : Array Value} {xs : List Value} (h : w.heap[g]? = some (.cells cur e (0, 0))) (hB : B ≤ g) (hn : n ≤ cap) (hc : cap ≤ maxLen) (hsz : cur.size = cap) (hl : xs.length = n)
    (hx : ∀ j, j < n → cur[j]? = xs[j]?) : w.ownsRow B e 1 (.slice (some ⟨g, 0, none⟩) n cap) n xs := by
  refine ⟨by omega, .inr ⟨g, cap, cur, rfl, hB, h, hn, hc, by omega, ?_⟩⟩
  apply List.ext_getElem?
  intro j
  rw [List.getElem?_take]
  by_cases hj : j < n
  · rw [if_pos (by omega), Array.getElem?_toList]; exact hx j hj
  · rw [if_neg (by omega), List.getElem?_eq_none (by omega)]

theorem ins_at (cs : List Value) (v : Value) (i j : Nat) (hi : i ≤ cs.length) : (cs.take i ++ [v] ++ cs.drop i)[j]? = if j < i then cs[j]? else if j = i then some v else cs[j - 1]? := by
  have hl : (cs.take i).length = i := by simp; omega
  rw [List.append_assoc, List.getElem?_append, hl]
  by_cases h : j < i
  · rw [if_pos h, if_pos h, List.getElem?_take, if_pos h]
  · rw [if_neg h, if_neg h]
    by_cases h2 : j = i
    · subst h2; simp
    · rw [if_neg h2, List.singleton_append, show j - i = (j - i - 1) + 1 by omega, List.getElem?_cons_succ, List.getElem?_drop]
      congr 1; omega

theorem ints_one (ns : List Int) : ∀ v ∈ ns.map (Value.int .i64), v.oneCell' = true := ints_oneCell .i64 ns

/-- slices.Insert of one number, at a row that the call owns (or nil). -/
theorem ins (w : World) (B : Nat) (ss : Value) (m i vb : Nat) (ns : List Int) (x : Int) (hi : i ≤ m) (hm : m ≤ 1000) (hB : B ≤ w.heap.size)
    (h0 : m = 0 → ss = .slice none 0 0) (hown : w.ownsRow B 3 1 ss m (ns.map (Value.int .i64))) (hv : w.heap[vb]? = some (.cells #[.int .i64 x] 3 (0, 0))) (hne : ss.ownBlock ≠ some vb) :
    Calls Yba.prog 40 #[ss, .int .i64 i, .slice (some ⟨vb, 0, none⟩) 1 1] w fun e w' =>
      ∃ g' c' : Nat, e = .returned (.slice (some ⟨g', 0, none⟩) (m + 1) c') ∧ w'.ownsRow B 3 1 (.slice (some ⟨g', 0, none⟩) (m + 1) c') (m + 1) ((ns.take i ++ [x] ++ ns.drop i).map (Value.int .i64)) ∧ w.grownBy w' ss.ownBlock := by
  have hl : ns.length = m := by simpa using hown.1
  have hvs : ∀ j v, [Value.int .i64 x][j]? = some v → w.cell? ⟨vb, 0 + j, none⟩ = some v := by
    intro j v hj
    match j, hj with
    | 0, hj => simp at hj; subst hj; simp [World.cell?, hv]
  have h1v : ∀ v ∈ [Value.int .i64 x], v.oneCell' = true := by intro v hv; simp at hv; subst hv; rfl
  have hmap : (ns.take i ++ [x] ++ ns.drop i).map (Value.int .i64) = (ns.map (Value.int .i64)).take i ++ [.int .i64 x] ++ (ns.map (Value.int .i64)).drop i := by simp [List.map_take, List.map_drop]
  rw [hmap]
  have h1c := ints_one ns
  generalize ns.map (Value.int .i64) = cs at *
  have hcl : cs.length = m := by simpa using hown.1
  clear hmap hl
  rcases hown.2 with ⟨rfl, rfl⟩ | ⟨g, cap, cur, rfl, hBg, hg, hnc, hcm, hsz, htk⟩
  · obtain rfl : i = 0 := by omega
    obtain rfl : cs = [] := List.eq_nil_of_length_eq_zero hcl
    refine (Any2.slices_Insert_int_end_grow insLays none 0 0 vb 0 1 1 [] [.int .i64 x] w (by omega) (by omega) (by omega) (by omega) rfl rfl (fun _ => rfl) (fun a h => by cases h) hvs h1v).mono fun e w' hh => ?_
    obtain ⟨rfl, rfl⟩ := hh
    have hge := grownCap_ge w (0 + 1) 0 (insRen.t 3)
    have hle := grownCap_le_maxLen w (0 + 1) 0 (insRen.t 3) (by unfold maxLen; omega)
    generalize grownCap w (0 + 1) 0 (insRen.t 3) = cp at *
    refine ⟨_, _, rfl, ownsRow_of (g := w.heap.size) (heap_alloc_new w.drew _) hB hge hle ?_ (by simp) ?_, ⟨rfl, rfl, rfl, by simp, fun k hk _ => Below.heap_alloc w.drew _ k hk⟩⟩
    · simp [size_zeroCells, Value.cells]; omega
    · intro j hj
      obtain rfl : j = 0 := by omega
      rw [Array.getElem?_append_left (by simp)]
      rfl
  · have hm0 : m ≠ 0 := fun h => by have := h0 h; simp at this
    have hsz' : cur.size = cap := by omega
    have hvg : vb ≠ g := fun h => hne (by simp [Value.ownBlock, h])
    have hcur : ∀ j, j < m → cur[j]? = cs[j]? := fun j hj => by rw [← htk, List.getElem?_take, if_pos (by omega), Array.getElem?_toList]
    have hcs : ∀ j v, cs[j]? = some v → w.cell? ⟨g, 0 + j, none⟩ = some v := fun j v hj => by
      have hj' := (List.getElem?_eq_some_iff.1 hj).1
      rw [cell_of_row w g _ cur 3 (0, 0) hg, Nat.zero_add, hcur j (by omega)]; exact hj
    have hsp : ∀ j, j < cap → (w.cell? ⟨g, 0 + j, none⟩).isSome = true := fun j hj => by
      rw [cell_of_row w g _ cur 3 (0, 0) hg, Nat.zero_add, Array.getElem?_eq_getElem (by omega)]; rfl
    have hfz : ∀ j, w.frozen? ⟨g, j, none⟩ = false := fun j => frozen_of_row w g j cur 3 hg
    have hgr : w.grownBy w.drew (some g) := ⟨rfl, rfl, rfl, Nat.le_refl _, fun _ _ _ => rfl⟩
    have hgr0 : w.grownBy w (some g) := World.grownBy.refl _ _
    unfold maxLen at hcm
    by_cases hroom : m + 1 ≤ cap
    · by_cases him : i < m
      · refine (Any2.slices_Insert_int_shift insLays g 0 m cap i vb 0 1 1 cs [.int .i64 x] w him (by omega) hroom hcm hvg hcl rfl hcs (fun j hj => hsp j (by omega)) (fun j hj => hfz _) hvs h1c h1v 3 3 1 cap
          (by simp [World.shape?, hv]) (by simp [World.shape?, hg, hsz']) (by omega) (frozen_of_row w vb _ _ _ hv) (frozen_of_row w vb _ _ _ hv)).mono fun e w' hh => ?_
        obtain ⟨rfl, rfl⟩ := hh
        refine ⟨_, _, rfl, ownsRow_of (g := g) (heap_setCells g 3 (0, 0) _ _ _ _ (heap_setCells g 3 (0, 0) _ _ w.drew cur hg)) hBg hroom (by unfold maxLen; omega) (by rw [spl_size, spl_size, hsz']) (by simp; omega) ?_,
          grownBy_setCells (grownBy_setCells hgr g _ _ (.inl rfl)) g _ _ (.inl rfl)⟩
        intro j hj
        rw [spl_at _ _ _ _ (by simp [spl_size]; omega), spl_at _ _ _ _ (by simp; omega), ins_at cs _ i j (by omega)]
        simp only [List.length_cons, List.length_nil, List.length_drop, hcl]
        by_cases c1 : j < i
        · rw [if_neg (by omega), if_neg (by omega), if_pos c1, hcur j (by omega)]
        · by_cases c2 : j = i
          · subst c2; rw [if_pos (by omega), if_neg (by omega), if_pos rfl]; simp
          · rw [if_neg (by omega), if_pos (by omega), if_neg c1, if_neg c2, List.getElem?_drop]
            congr 1; omega
      · obtain rfl : i = m := by omega
        refine (Any2.slices_Insert_int_end_room insLays g 0 i cap vb 0 1 1 [.int .i64 x] w (by omega) hroom hcm rfl (fun j hj => by have := hsp (i + j) (by omega); rwa [← Nat.add_assoc] at this) (fun j hj => hfz _) hvs h1v).mono fun e w' hh => ?_
        obtain ⟨rfl, rfl⟩ := hh
        refine ⟨_, _, rfl, ownsRow_of (g := g) (heap_setCells g 3 (0, 0) _ _ w cur hg) hBg hroom (by unfold maxLen; omega) (by rw [spl_size, hsz']) (by simp; omega) ?_,
          grownBy_setCells hgr0 g _ _ (.inl rfl)⟩
        intro j hj
        rw [spl_at _ _ _ _ (by simp; omega), ins_at cs _ i j (by omega)]
        simp only [List.length_cons, List.length_nil]
        by_cases c1 : j < i
        · rw [if_neg (by omega), if_pos c1, hcur j (by omega)]
        · have c2 : j = i := by omega
          subst c2; rw [if_pos (by omega), if_neg (by omega), if_pos rfl]; simp
    · by_cases him : i < m
      · refine (Any2.slices_Insert_int_grow insLays g 0 m cap i vb 0 1 1 cs [.int .i64 x] w him (by omega) hnc (by omega) (by omega) hcl rfl hcs hvs h1c h1v).mono fun e w' hh => ?_
        obtain ⟨rfl, rfl⟩ := hh
        have hge := grownCap_ge w (m + 1) cap (insRen.t 3)
        have hle := grownCap_le_maxLen w (m + 1) cap (insRen.t 3) (by unfold maxLen; omega)
        generalize grownCap w (m + 1) cap (insRen.t 3) = cp at *
        have hsb : ((cs.take i).toArray ++ Builtin.zeroCells (Value.int .i64 0).cells (m + 1 - i) ++ Builtin.zeroCells (Value.int .i64 0).cells (cp - (m + 1))).size = cp := by
          simp [size_zeroCells, Value.cells]; omega
        have hga : w.grownBy ((w.alloc (.cells ((cs.take i).toArray ++ Builtin.zeroCells (Value.int .i64 0).cells (m + 1 - i) ++ Builtin.zeroCells (Value.int .i64 0).cells (cp - (m + 1))) 3)).drew) (some g) :=
          ⟨rfl, rfl, rfl, by simp, fun k hk _ => Below.heap_alloc w _ k hk⟩
        refine ⟨_, _, rfl, ownsRow_of (g := w.heap.size) (heap_setCells w.heap.size 3 (0, 0) _ _ (World.drew _) _ (heap_setCells w.heap.size 3 (0, 0) _ _ (World.drew _) _ (heap_alloc_new w _))) hB hge hle (by rw [spl_size, spl_size]; exact hsb) (by simp; omega) ?_, ?_⟩
        · intro j hj
          rw [spl_at _ _ _ _ (by rw [spl_size, List.length_drop]; show _ ≤ Array.size (_ ++ _ ++ _); rw [hsb]; omega), spl_at _ _ _ _ (by show _ ≤ Array.size (_ ++ _ ++ _); rw [hsb]; simp; omega), ins_at cs _ i j (by omega)]
          simp only [List.length_cons, List.length_nil, List.length_drop, hcl]
          by_cases c1 : j < i
          · rw [if_neg (by omega), if_neg (by omega), if_pos c1, Array.append_assoc, Array.getElem?_append_left (by simp; omega)]
            simp [c1]
          · by_cases c2 : j = i
            · subst c2; rw [if_neg (by omega), if_pos (by omega), if_neg (by omega), if_pos rfl]; simp
            · rw [if_pos (by omega), if_neg c1, if_neg c2, List.getElem?_drop]
              congr 1; omega
        · exact grownBy_setCells (grownBy_drew (grownBy_setCells hga w.heap.size _ _ (.inr (Nat.le_refl _)))) w.heap.size _ _ (.inr (Nat.le_refl _))
      · obtain rfl : i = m := by omega
        refine (Any2.slices_Insert_int_end_grow insLays (some ⟨g, 0, none⟩) i cap vb 0 1 1 cs [.int .i64 x] w (by omega) hnc (by omega) (by omega) hcl rfl (fun h => by cases h) (fun a ha j v hj => by cases ha; rw [Addr.add_lit]; exact hcs j v hj) hvs h1v).mono fun e w' hh => ?_
        obtain ⟨rfl, rfl⟩ := hh
        have hge := grownCap_ge w (i + 1) cap (insRen.t 3)
        have hle := grownCap_le_maxLen w (i + 1) cap (insRen.t 3) (by unfold maxLen; omega)
        generalize grownCap w (i + 1) cap (insRen.t 3) = cp at *
        refine ⟨_, _, rfl, ownsRow_of (g := w.heap.size) (heap_alloc_new w.drew _) hB hge hle ?_ (by simp; omega) ?_, ⟨rfl, rfl, rfl, by simp, fun k hk _ => Below.heap_alloc w.drew _ k hk⟩⟩
        · simp [size_zeroCells, Value.cells]; omega
        · intro j hj
          rw [ins_at cs _ i j (by omega), Array.getElem?_append_left (by simp; omega)]
          simp only [List.getElem?_toArray]
          by_cases c1 : j < i
          · rw [if_pos c1, List.getElem?_append_left (by omega)]
          · have c2 : j = i := by omega
            subst c2; rw [if_neg (by omega), if_pos rfl, List.getElem?_append_right (by omega), hcl]; simp
end Go.Proofs.Ybulkvuk
