import Derived.Test.YbulkvukRReach
import Derived.Deep.RegionLaw
import Derived.Deep.DeepCutAuto
namespace Go.Proofs.Ybulkvuk
open Go.RowKit
set_option linter.unusedVariables false

/-- An action: its round, its process, and to whom (none: to all; else a block and the process that its cell 0 holds). -/
structure Ac where
  r : Nat
  p : Nat
  dst : Option (Nat × Nat)

def toV : Option (Nat × Nat) → Value
  | none => .slice none 0 0
  | some (tb, _) => .slice (some ⟨tb, 0, none⟩) 1 1
def acCells (m : Value) (a : Ac) : List Value := [.int .i64 (a.r : Int), .int .i64 (a.p : Int), m, .bool false, .bool a.dst.isNone, toV a.dst]

/-- A Forgery at block fb: its generator at gb, its actions A (all of message m) in the slice av. -/
structure FSt (w : World) (B scb fb gb : Nat) (G : Gen) (m : Value) (A : List Ac) (av : Value) : Prop where
  lb : B ≤ fb
  lg : B ≤ gb
  ne : fb ≠ gb
  f0 : w.cell? ⟨fb, 0, none⟩ = some (.pointer (some ⟨scb, 0, none⟩))
  f1 : w.cell? ⟨fb, 1, none⟩ = some (.pointer (some ⟨gb, 0, none⟩))
  f3 : w.cell? ⟨fb, 3, none⟩ = some av
  fz : w.frozen? ⟨fb, 3, none⟩ = false
  gen : GenAt w gb G
  gok : GOk G
  own : w.ownsRow B 51 6 av A.length (A.flatMap (acCells m))
  o1 : av.ownBlock ≠ some fb
  o2 : av.ownBlock ≠ some gb
  tos : ∀ a ∈ A, ∀ tb x, a.dst = some (tb, x) → B ≤ tb ∧ tb ≠ fb ∧ tb ≠ gb ∧ av.ownBlock ≠ some tb ∧ w.cell? ⟨tb, 0, none⟩ = some (.int .i64 (x : Int))

theorem Tr.grown {g : Nat} {w w' : World} (h : Tr [g] w w') : w.grownBy w' (some g) := ⟨h.os, h.tape, h.output, h.size, fun k hk hne => h.block k hk (by simpa using fun e => hne (by rw [e]))⟩

theorem FSt.step {w w' : World} {B scb fb gb : Nat} {G G' : Gen} {m av : Value} {A : List Ac} (h : FSt w B scb fb gb G m A av) (ht : Tr [gb] w w') (hg : GenAt w' gb G') (hok : GOk G') : FSt w' B scb fb gb G' m A av := by
  have cc : ∀ {b o v}, b ≠ gb → w.cell? ⟨b, o, none⟩ = some v → w'.cell? ⟨b, o, none⟩ = some v := fun hb hc => ht.cell hc (by simpa using hb)
  have lf := World.block_lt_of_cell? w _ h.f0
  refine ⟨h.lb, h.lg, h.ne, cc h.ne h.f0, cc h.ne h.f1, cc h.ne h.f3, ?_, hg, hok, h.own.kept ht.grown (.inr h.o2), h.o1, h.o2, fun a ha tb x hx => ?_⟩
  · have := ht.block fb lf (by simpa using h.ne)
    rw [World.frozen?_of_block (a := ⟨fb, 3, none⟩) this]; exact h.fz
  · obtain ⟨t1, t2, t3, t4, t5⟩ := h.tos a ha tb x hx
    exact ⟨t1, t2, t3, t4, cc t3 t5⟩

theorem FSt.below {w w' : World} {B scb fb gb : Nat} {G : Gen} {m av : Value} {A : List Ac} (h : FSt w B scb fb gb G m A av) (hb : Below w.heap.size w w') : FSt w' B scb fb gb G m A av :=
  h.step (Tr.of_below _ hb) (h.gen.tr (Tr.of_below [] hb) (by simp)) h.gok

/-- Every old block but fb, gb and av's own stays; av' owns none of those that stay. -/
def Kp (fb gb : Nat) (av av' : Value) (w w' : World) : Prop := ∀ k, k < w.heap.size → k ≠ fb → k ≠ gb → av.ownBlock ≠ some k → w'.heap[k]? = w.heap[k]? ∧ av'.ownBlock ≠ some k
theorem Kp.trans {fb gb : Nat} {a b c : Value} {w1 w2 w3 : World} (h : Kp fb gb a b w1 w2) (k : Kp fb gb b c w2 w3) (hs : w1.heap.size ≤ w2.heap.size) : Kp fb gb a c w1 w3 := fun i hi h1 h2 h3 => by
  obtain ⟨q1, q2⟩ := h i hi h1 h2 h3
  obtain ⟨q3, q4⟩ := k i (by omega) h1 h2 q2
  exact ⟨q3.trans q1, q4⟩
theorem Kp.of_tr {fb gb : Nat} (av : Value) {w w' : World} (h : Tr [gb] w w') : Kp fb gb av av w w' := fun i hi h1 h2 h3 => ⟨h.block i hi (by simpa using h2), h3⟩
theorem Kp.of_below {fb gb : Nat} (av : Value) {w w' : World} (h : Below w.heap.size w w') : Kp fb gb av av w w' := fun i hi h1 h2 h3 => ⟨h.block i hi, h3⟩

theorem info51 : (Yba.prog.info? 51).map (fun i => (i.zero, i.size, i.bytes)) = some (some (.agg #[.int .i64 0, .int .i64 0, .nilIface, .bool false, .bool false, .slice none 0 0]), 6, 64) := by kernel_rfl

def acV (m : Value) (a : Ac) : Value := .agg #[.int .i64 (a.r : Int), .int .i64 (a.p : Int), m, .bool false, .bool a.dst.isNone, toV a.dst]

/-- The actions behind add. -/
def addA (A : List Ac) (a : Ac) : List Ac := if A.length < 10000 then A ++ [a] else A

/-- Behind 'f.actions = append(f.actions, a)'. -/
theorem add_fin {w w1 w2 : World} {B scb fb gb : Nat} {G : Gen} {m av : Value} {A : List Ac} {a : Ac} {g cap : Nat} (h : FSt w B scb fb gb G m A av) (hB : B ≤ w.heap.size) (hm : m.oneCell' = true)
    (hto : ∀ tb x, a.dst = some (tb, x) → B ≤ tb ∧ tb ≠ fb ∧ tb ≠ gb ∧ av.ownBlock ≠ some tb ∧ w.cell? ⟨tb, 0, none⟩ = some (.int .i64 (x : Int)))
    (hw1 : Below w.heap.size w w1)
    (hown : w2.ownsRow B 51 6 (.slice (some ⟨g, 0, none⟩) (A.length + 1) cap) (A.length + 1) (A.flatMap (acCells m) ++ acCells m a))
    (hgrow : w1.grownBy w2 av.ownBlock) (hat : av.ownBlock = some g ∨ w.heap.size ≤ g) :
    FSt (w2.setCell ⟨fb, 3, none⟩ (.slice (some ⟨g, 0, none⟩) (A.length + 1) cap)) B scb fb gb G m (A ++ [a]) (.slice (some ⟨g, 0, none⟩) (A.length + 1) cap) ∧ Below B w (w2.setCell ⟨fb, 3, none⟩ (.slice (some ⟨g, 0, none⟩) (A.length + 1) cap)) ∧ Kp fb gb av (.slice (some ⟨g, 0, none⟩) (A.length + 1) cap) w (w2.setCell ⟨fb, 3, none⟩ (.slice (some ⟨g, 0, none⟩) (A.length + 1) cap)) := by
  have h1 := h.below hw1
  have ls := hw1.size
  have cc : ∀ {b o v}, av.ownBlock ≠ some b → w1.cell? ⟨b, o, none⟩ = some v → w2.cell? ⟨b, o, none⟩ = some v := fun hb hc => hgrow.cell hc (fun e => hb e.symm)
  have lf := World.block_lt_of_cell? w _ h.f0
  have lg := World.block_lt_of_cell? w _ h.gen.c0
  simp only at lf lg
  have gne : ∀ b, b < w.heap.size → av.ownBlock ≠ some b → g ≠ b := fun b hb hne e => by
    subst e
    rcases hat with e | e
    · exact hne e
    · omega
  have gf := gne fb lf h.o1
  have gg := gne gb lg h.o2
  have gb2 : w2.heap[gb]? = w1.heap[gb]? := hgrow.block gb (by omega) (fun e => h.o2 e.symm)
  have so : ∀ {b o v}, b ≠ fb ∨ o ≠ 3 → w2.cell? ⟨b, o, none⟩ = some v → (w2.setCell ⟨fb, 3, none⟩ (.slice (some ⟨g, 0, none⟩) (A.length + 1) cap)).cell? ⟨b, o, none⟩ = some v := fun hb hc => by
    rw [World.cell?_setCell_other _ _ _ _ (fun e => by simp at e; omega)]; exact hc
  refine ⟨⟨h.lb, h.lg, h.ne, so (.inr (by decide)) (cc h.o1 h1.f0), so (.inr (by decide)) (cc h.o1 h1.f1), World.cell?_setCell_same _ _ _ (cc h.o1 h1.f3), ?_, ?_, h.gok, ?_, by simpa [Value.ownBlock] using gf, by simpa [Value.ownBlock] using gg, ?_⟩, ?_, ?_⟩
  · rw [World.frozen?_setCell, World.frozen?_of_block (a := ⟨fb, 3, none⟩) (hgrow.block fb (by omega) (fun e => h.o1 e.symm))]; exact h1.fz
  · have hq : (w2.setCell ⟨fb, 3, none⟩ (.slice (some ⟨g, 0, none⟩) (A.length + 1) cap)).heap[gb]? = w1.heap[gb]? := by rw [Below.heap_setCell _ _ _ _ (Ne.symm h.ne)]; exact gb2
    have c2 : ∀ k, (w2.setCell ⟨fb, 3, none⟩ (.slice (some ⟨g, 0, none⟩) (A.length + 1) cap)).cell? ⟨gb, k, none⟩ = w1.cell? ⟨gb, k, none⟩ := fun k => World.cell?_of_block (a := ⟨gb, k, none⟩) hq
    have k := h1.gen
    exact ⟨fun i x hx => (c2 i).trans (k.buf i x hx), (c2 _).trans k.c0, (c2 _).trans k.c1, (c2 _).trans k.c2, (c2 _).trans k.c3, (c2 _).trans k.ci, (c2 _).trans k.cn, (c2 _).trans k.cc, fun i => (World.frozen?_of_block (a := ⟨gb, i, none⟩) hq).trans (k.fz i)⟩
  · rw [List.length_append, List.flatMap_append]
    show World.ownsRow _ _ _ _ _ (A.length + 1) _
    simp only [List.flatMap_cons, List.flatMap_nil, List.append_nil]
    exact ownsRow_setCell_other hown (by simpa [Value.ownBlock] using gf) _
  · intro b hb tb x hx
    rw [List.mem_append] at hb
    have key : B ≤ tb ∧ tb ≠ fb ∧ tb ≠ gb ∧ av.ownBlock ≠ some tb ∧ w.cell? ⟨tb, 0, none⟩ = some (.int .i64 (x : Int)) := by
      rcases hb with hb | hb
      · exact h.tos b hb tb x hx
      · simp at hb; subst hb; exact hto tb x hx
    obtain ⟨t1, t2, t3, t4, t5⟩ := key
    have lt := World.block_lt_of_cell? w _ t5
    simp only at lt
    have t6 : w1.cell? ⟨tb, 0, none⟩ = some (.int .i64 (x : Int)) := by rw [hw1.cell (p := ⟨tb, 0, none⟩) lt]; exact t5
    exact ⟨t1, t2, t3, by simpa [Value.ownBlock] using gne tb lt t4, so (.inl t2) (cc t4 t6)⟩
  · exact (((hw1.mono hB).grown hgrow (by omega) (fun k hk => (h.own.lt k hk).1))).setCell h.lb _
  · intro k hk n1 n2 n3
    refine ⟨?_, by simpa [Value.ownBlock] using gne k hk n3⟩
    rw [Below.heap_setCell _ _ _ _ n1, hgrow.block k (by omega) (fun e => n3 e.symm)]
    exact hw1.block k hk

set_option maxRecDepth 100000 in
set_option maxHeartbeats 2000000 in
/-- (*Forgery).add. -/
theorem add (B scb fb gb : Nat) (G : Gen) (m av : Value) (A : List Ac) (a : Ac) (w : World) (h : FSt w B scb fb gb G m A av) (hl : A.length ≤ 10000) (hB : B ≤ w.heap.size) (hm : m.oneCell' = true)
    (hto : ∀ tb x, a.dst = some (tb, x) → B ≤ tb ∧ tb ≠ fb ∧ tb ≠ gb ∧ av.ownBlock ≠ some tb ∧ w.cell? ⟨tb, 0, none⟩ = some (.int .i64 (x : Int))) :
    Calls Yba.prog 34 #[.pointer (some ⟨fb, 0, none⟩), acV m a] w fun e w' => e = .returned (.tuple #[]) ∧ ∃ av', FSt w' B scb fb gb G m (addA A a) av' ∧ Below B w w' ∧ Kp fb gb av av' w w' := by
  obtain ⟨ao, cv, rfl⟩ : ∃ ao cv, av = .slice ao A.length cv := by
    rcases h.own.2 with ⟨rfl, h0⟩ | ⟨g, cap, cur, rfl, _⟩
    · exact ⟨none, 0, by rw [h0]⟩
    · exact ⟨_, cap, rfl⟩
  have lf := World.block_lt_of_cell? w _ h.f0
  simp only at lf
  have h3 := h.f3
  have hz := h.fz
  by_cases hlt : A.length < 10000
  · have b1 : (A.length : Int) < 10000 := by omega
    have HA : Hid (addA A a = A ++ [a]) := by show addA A a = _; rw [addA, if_pos hlt]
    obtain ⟨cs, hcs⟩ : ∃ cs : Array Value, cs = #[.int .i64 (a.r : Int), .int .i64 (a.p : Int), m, .bool false, .bool a.dst.isNone, toV a.dst] := ⟨_, rfl⟩
    have hto1 : (toV a.dst).oneCell' = true := by cases a.dst <;> rfl
    have sA : Hid (((w.alloc (.cells cs 51)).alloc (.cells cs 51)).drew.ownsRow B 51 6 (.slice ao A.length cv) A.length (A.flatMap (acCells m))) := ((h.own.alloc _).alloc _).drew
    have sB : Hid (∀ j u, (acCells m a)[j]? = some u → ((w.alloc (.cells cs 51)).alloc (.cells cs 51)).drew.cell? ((⟨w.heap.size + 1, 0, none⟩ : Addr).add j) = some u) := by
      intro j u hj
      rw [Addr.add_lit, Nat.zero_add]
      show ((w.alloc (.cells cs 51)).alloc (.cells cs 51)).cell? _ = _
      rw [World.cell?_alloc_at _ _ _ _ (by simp), hcs]
      simpa [acCells] using hj
    have sC : Hid (∀ u ∈ acCells m a, u.oneCell' = true) := by
      intro u hu
      simp [acCells] at hu
      rcases hu with rfl | rfl | rfl | rfl | rfl | rfl
      · rfl
      · rfl
      · exact hm
      · rfl
      · rfl
      · exact hto1
    have sD : Hid (A.length + 1 ≤ maxLen) := by show A.length + 1 ≤ maxLen; unfold maxLen; omega
    have sE : Hid (B ≤ ((w.alloc (.cells cs 51)).alloc (.cells cs 51)).drew.heap.size) := by show B ≤ _; simp; omega
    have sF : Hid (((w.alloc (.cells cs 51)).alloc (.cells cs 51)).drew.heap.size = w.heap.size + 2) := by show _ = _; simp
    have sG : Hid (some fb ≠ (Value.slice ao A.length cv).ownBlock) := fun e => h.o1 e.symm
    have sK : Hid ((A.length + 1) * 64 ≤ 140737488355328) := by show _ ≤ _; omega
    have sZ : Hid (((w.alloc (.cells cs 51)).alloc (.cells cs 51)).drew.frozen? ⟨fb, 3, none⟩ = false) := by
      show ((w.alloc (.cells cs 51)).alloc (.cells cs 51)).frozen? ⟨fb, 3, none⟩ = false
      rw [World.frozen?_alloc_past _ _ _ (by simp; omega), World.frozen?_alloc_past _ _ _ (by exact lf)]; exact hz
    have HF : Hid (FSt w B scb fb gb G m A (.slice ao A.length cv)) := h
    have HW : Hid (Below w.heap.size w ((w.alloc (.cells cs 51)).alloc (.cells cs 51)).drew) := (((Below.refl _ w).alloc (Nat.le_refl _) _).alloc (by simp) _).drew
    have HT : Hid (∀ tb x, a.dst = some (tb, x) → B ≤ tb ∧ tb ≠ fb ∧ tb ≠ gb ∧ (Value.slice ao A.length cv).ownBlock ≠ some tb ∧ w.cell? ⟨tb, 0, none⟩ = some (.int .i64 (x : Int))) := hto
    rw [hcs] at sA sB sE sF HW sZ
    clear hcs h hto
    unfold acV
    obtain ⟨i0, hi0, hz0, hz1, hz2⟩ := info_parts info51
    go_enter Yba.func34, Yba.ntmps34
    go_wp2
    go_region_law ((refine step_append_lies _ (by rfl) _ _ _ (by rfl) B 51 i0 _ 6 64 Yba.underlying40 hi0 hz0 hz1 hz2 (by rfl) (by omega) (.slice ao A.length cv) A.length (A.flatMap (acCells m)) (by rfl) sA.out ⟨w.heap.size + 1, 0, none⟩ 1 1 (acCells m a) (by rfl) (by rfl) sB.out sC.out (by omega) sD.out sK.out sE.out (w.heap.size + 2) sF.out ?_; intro g cap w2 hown2 hgrow hat hlt2; have z1 : w2.cell? ⟨fb, 3, none⟩ = some (.slice ao A.length cv) := (hgrow.cell_far _ (by simp; omega) sG.out).trans (by simp [h3, World.cell?_alloc_some]); have z2 : w2.frozen? ⟨fb, 3, none⟩ = false := (hgrow.frozen_far _ (by simp; omega) sG.out).trans sZ.out))
    all_goals
      have R := add_fin HF.out hB hm HT.out HW.out hown2 hgrow (by rcases hat with e | e; exact .inl e; exact .inr (by omega))
      rw [← HA.out] at R
      go_wp2
      go_end0
      exact ⟨rfl, _, R.1, R.2.1, R.2.2⟩
  · have b1 : ¬ ((A.length : Int) < 10000) := by omega
    have HF : Hid (FSt w B scb fb gb G m A (.slice ao A.length cv)) := h
    have HA : Hid (addA A a = A) := by show addA A a = A; rw [addA, if_neg hlt]
    unfold acV
    clear h
    go_enter Yba.func34, Yba.ntmps34
    go_wp2
    go_end0
    exact ⟨rfl, _, by rw [HA.out]; exact HF.out.below ((Below.refl _ w).alloc (Nat.le_refl _) _), (Below.refl B w).alloc hB _, Kp.of_below _ ((Below.refl _ w).alloc (Nat.le_refl _) _)⟩
end Go.Proofs.Ybulkvuk
