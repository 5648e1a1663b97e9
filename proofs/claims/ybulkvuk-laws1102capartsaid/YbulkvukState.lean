import Derived.Test.YbulkvukTab
import Derived.WalkKit
import Derived.Deep.RegionHeld3
import Derived.Deep.DrawnRows
import Derived.Deep.DeepCutAuto
import Derived.Deep.OwnRows
namespace Go.Proofs.Ybulkvuk
open Go.RowKit
set_option linter.unusedVariables false

theorem info4 : (Yba.prog.info? 4).map (fun i => (i.zero, i.size, i.bytes)) = some (some (.bool false), 1, 1) := by kernel_rfl
theorem info3 : (Yba.prog.info? 3).map (fun i => (i.zero, i.size, i.bytes)) = some (some (.int .i64 0), 1, 8) := by kernel_rfl
theorem info81 : (Yba.prog.info? 81).map (fun i => (i.zero, i.size, i.bytes)) = some (some (.agg #[.slice none 0 0, .slice none 0 0, .slice none 0 0, .slice none 0 0]), 4, 96) := by kernel_rfl

/-- A slice at a block's head, as long as its capacity. -/
abbrev sl (b n : Nat) : Value := .slice (some ⟨b, 0, none⟩) n n

/-- The state that newState builds, its first k processes laid. -/
structure Part (w wr : World) (su sb pb fb n m k : Nat) (hb db nb rb : Nat → Nat) : Prop where
  blk : wr.heap[sb]? = some (.cells #[.pointer (some ⟨su, 0, none⟩), .int .i64 0, sl pb n, sl fb n, .slice none 0 0, .int .i64 0] 79 (0, 0))
  fl : wr.rowIs fb 4 n (fun _ => .bool false)
  shp : ∃ cur, wr.heap[pb]? = some (.cells cur 81 (0, 0)) ∧ cur.size = n * 4
  p0 : ∀ i, i < k → wr.cell? ⟨pb, i * 4, none⟩ = some (sl (hb i) m)
  p1 : ∀ i, i < k → wr.cell? ⟨pb, i * 4 + 1, none⟩ = some (sl (db i) m)
  p2 : ∀ i, i < k → wr.cell? ⟨pb, i * 4 + 1 + 1, none⟩ = some (sl (nb i) m)
  p3 : ∀ i, i < k → wr.cell? ⟨pb, i * 4 + 1 + 1 + 1, none⟩ = some (sl (rb i) m)
  held : ∀ i, i < k → wr.rowIs (hb i) 3 m (fun _ => .int .i64 0)
  deli : ∀ i, i < k → wr.rowIs (db i) 4 m (fun _ => .bool false)
  send : ∀ i, i < k → wr.rowIs (nb i) 3 m (fun _ => .int .i64 0)
  dirc : ∀ i, i < k → wr.rowIs (rb i) 4 m (fun _ => .bool false)
  inj : ∀ i j, i < j → j < k → hb i < hb j
  lo : w.heap.size ≤ sb ∧ w.heap.size ≤ pb ∧ w.heap.size ≤ fb ∧ ∀ i, i < k → w.heap.size ≤ hb i
  bel : Below w.heap.size w wr

theorem rowIs_of_heap {w : World} {b n : Nat} {t : TypeId} {z : Value} (h : w.heap[b]? = some (.cells (madeCells #[z] n) t (0, 0))) : w.rowIs b t n (fun _ => z) :=
  ⟨_, h, size_madeCells _ _, fun i hi => by simp [madeCells, hi, Nat.mod_one]⟩

theorem heap3 (w : World) (a b c : Obj) : (((w.alloc a).alloc b).alloc c).heap[w.heap.size]? = some a ∧ (((w.alloc a).alloc b).alloc c).heap[w.heap.size + 1]? = some b ∧ (((w.alloc a).alloc b).alloc c).heap[w.heap.size + 1 + 1]? = some c := by
  refine ⟨?_, ?_, ?_⟩
  · rw [Below.heap_alloc _ _ _ (by simp; omega), Below.heap_alloc _ _ _ (by simp)]; exact heap_alloc_new w a
  · rw [Below.heap_alloc _ _ _ (by simp)]; have := heap_alloc_new (w.alloc a) b; simpa using this
  · have := heap_alloc_new ((w.alloc a).alloc b) c; simpa using this

/-- At the start. -/
theorem part_zero {w W : World} {su sb pb fb n m : Nat} (hb : Below w.heap.size w W)
    (h1 : W.heap[sb]? = some (.cells #[.pointer (some ⟨su, 0, none⟩), .int .i64 0, sl pb n, sl fb n, .slice none 0 0, .int .i64 0] 79 (0, 0)))
    (h2 : W.heap[fb]? = some (.cells (madeCells #[.bool false] n) 4 (0, 0)))
    (h3 : W.heap[pb]? = some (.cells (madeCells #[.slice none 0 0, .slice none 0 0, .slice none 0 0, .slice none 0 0] (n * 4)) 81 (0, 0)))
    (l : w.heap.size ≤ sb ∧ w.heap.size ≤ pb ∧ w.heap.size ≤ fb) : Part w W su sb pb fb n m 0 (fun _ => 0) (fun _ => 0) (fun _ => 0) (fun _ => 0) :=
  ⟨h1, rowIs_of_heap h2, ⟨_, h3, size_madeCells _ _⟩, fun _ h => by omega, fun _ h => by omega, fun _ h => by omega, fun _ h => by omega, fun _ h => by omega, fun _ h => by omega, fun _ h => by omega, fun _ h => by omega,
    fun _ _ _ h => by omega, ⟨l.1, l.2.1, l.2.2, fun _ h => by omega⟩, hb⟩

/-- Four stores into one block. -/
def put4 (w : World) (b o : Nat) (v0 v1 v2 v3 : Value) : World :=
  (((w.setCell ⟨b, o, none⟩ v0).setCell ⟨b, o + 1, none⟩ v1).setCell ⟨b, o + 2, none⟩ v2).setCell ⟨b, o + 3, none⟩ v3

theorem put4_far (w : World) (b o : Nat) (v0 v1 v2 v3 : Value) (k : Nat) (h : k ≠ b) : (put4 w b o v0 v1 v2 v3).heap[k]? = w.heap[k]? := by
  unfold put4
  rw [Below.heap_setCell _ _ _ _ h, Below.heap_setCell _ _ _ _ h, Below.heap_setCell _ _ _ _ h, Below.heap_setCell _ _ _ _ h]

theorem put4_at {w : World} {b o : Nat} {v0 v1 v2 v3 : Value} {c : Array Value} {t : TypeId} (h : w.heap[b]? = some (.cells c t (0, 0))) :
    (put4 w b o v0 v1 v2 v3).heap[b]? = some (.cells ((((c.setIfInBounds o v0).setIfInBounds (o + 1) v1).setIfInBounds (o + 1 + 1) v2).setIfInBounds (o + 1 + 1 + 1) v3) t (0, 0)) := by
  unfold put4
  simp [World.setCell, Array.getElem?_modify, h]

theorem below_put4 {B b : Nat} {a w : World} (h : Below B a w) (hb : B ≤ b) (o : Nat) (v0 v1 v2 v3 : Value) : Below B a (put4 w b o v0 v1 v2 v3) :=
  (((h.setCell hb _).setCell hb _).setCell hb _).setCell hb _

theorem get4 (c : Array Value) (o j : Nat) (v0 v1 v2 v3 : Value) (h : o + 1 + 1 + 1 < c.size) :
    ((((c.setIfInBounds o v0).setIfInBounds (o + 1) v1).setIfInBounds (o + 1 + 1) v2).setIfInBounds (o + 1 + 1 + 1) v3)[j]? =
      if j = o then some v0 else if j = o + 1 then some v1 else if j = o + 1 + 1 then some v2 else if j = o + 1 + 1 + 1 then some v3 else c[j]? := by
  simp only [Array.getElem?_setIfInBounds, Array.size_setIfInBounds]
  by_cases c3 : j = o + 1 + 1 + 1
  · subst c3; rw [if_pos rfl, if_pos (by omega), if_neg (by omega), if_neg (by omega), if_neg (by omega), if_pos rfl]
  · rw [if_neg (by omega)]
    by_cases c2 : j = o + 1 + 1
    · subst c2; rw [if_pos rfl, if_pos (by omega), if_neg (by omega), if_neg (by omega), if_pos rfl]
    · rw [if_neg (by omega)]
      by_cases c1 : j = o + 1
      · subst c1; rw [if_pos rfl, if_pos (by omega), if_neg (by omega), if_pos rfl]
      · rw [if_neg (by omega)]
        by_cases c0 : j = o
        · subst c0; rw [if_pos rfl, if_pos (by omega), if_pos rfl]
        · rw [if_neg (by omega), if_neg c0, if_neg c1, if_neg c2, if_neg c3]

def upd (f : Nat → Nat) (k v : Nat) : Nat → Nat := fun i => if i = k then v else f i
theorem upd_same (f : Nat → Nat) (k v : Nat) : upd f k v k = v := if_pos rfl
theorem upd_other (f : Nat → Nat) (k v i : Nat) (h : i ≠ k) : upd f k v i = f i := if_neg h

/-- One round. -/
theorem part_step {w wr W : World} {su sb pb fb n m k : Nat} {hb db nb rb : Nat → Nat} {h d s r : Nat} (hP : Part w wr su sb pb fb n m k hb db nb rb) (hk : k < n)
    (hold : ∀ i, i < wr.heap.size → W.heap[i]? = wr.heap[i]?) (hbW : Below w.heap.size w W) (hh : wr.heap.size ≤ h)
    (e0 : W.heap[h]? = some (.cells (madeCells #[.int .i64 0] m) 3 (0, 0))) (e1 : W.heap[d]? = some (.cells (madeCells #[.bool false] m) 4 (0, 0)))
    (e2 : W.heap[s]? = some (.cells (madeCells #[.int .i64 0] m) 3 (0, 0))) (e3 : W.heap[r]? = some (.cells (madeCells #[.bool false] m) 4 (0, 0))) :
    Part w (put4 W pb (k * 4) (sl h m) (sl d m) (sl s m) (sl r m)) su sb pb fb n m (k + 1) (upd hb k h) (upd db k d) (upd nb k s) (upd rb k r) := by
  obtain ⟨cur, hc, hcs⟩ := hP.shp
  have lp := lt_of_heap hc
  have hcW : W.heap[pb]? = some (.cells cur 81 (0, 0)) := (hold pb lp).trans hc
  have hat := put4_at (o := k * 4) (v0 := sl h m) (v1 := sl d m) (v2 := sl s m) (v3 := sl r m) hcW
  have ne : ∀ {b : Nat} {t : TypeId} {c : Array Value}, W.heap[b]? = some (.cells c t (0, 0)) → t ≠ 81 → b ≠ pb := fun hb' ht e => by
    subst e; rw [hcW] at hb'; simp at hb'; exact ht hb'.2.symm
  have far : ∀ {b : Nat} {t : TypeId} {c : Array Value}, W.heap[b]? = some (.cells c t (0, 0)) → t ≠ 81 → (put4 W pb (k * 4) (sl h m) (sl d m) (sl s m) (sl r m)).heap[b]? = some (.cells c t (0, 0)) := fun hb' ht => by
    rw [put4_far _ _ _ _ _ _ _ _ (ne hb' ht)]; exact hb'
  have row : ∀ {b : Nat} {t : TypeId} {q : Nat} {f : Nat → Value}, wr.rowIs b t q f → t ≠ 81 → (put4 W pb (k * 4) (sl h m) (sl d m) (sl s m) (sl r m)).rowIs b t q f := fun hr ht => by
    obtain ⟨c, h1, h2, h3⟩ := hr
    exact ⟨c, far ((hold _ (lt_of_heap h1)).trans h1) ht, h2, h3⟩
  have cel : ∀ j, (put4 W pb (k * 4) (sl h m) (sl d m) (sl s m) (sl r m)).cell? ⟨pb, j, none⟩ = if j = k * 4 then some (sl h m) else if j = k * 4 + 1 then some (sl d m) else if j = k * 4 + 1 + 1 then some (sl s m) else if j = k * 4 + 1 + 1 + 1 then some (sl r m) else wr.cell? ⟨pb, j, none⟩ := fun j => by
    rw [cell_of_row _ pb j _ 81 (0, 0) hat, get4 _ _ _ _ _ _ _ (by omega), cell_of_row wr pb j cur 81 (0, 0) hc]
  refine ⟨far ((hold _ (lt_of_heap hP.blk)).trans hP.blk) (by decide), row hP.fl (by decide), ⟨_, hat, by simp [hcs]⟩, ?_, ?_, ?_, ?_, ?_, ?_, ?_, ?_, ?_, ?_, below_put4 hbW hP.lo.2.1 _ _ _ _ _⟩
  · intro i hi
    rw [cel]
    by_cases e : i = k
    · subst e; rw [if_pos rfl, upd_same]
    · rw [if_neg (by omega), if_neg (by omega), if_neg (by omega), if_neg (by omega), upd_other _ _ _ _ e]; exact hP.p0 i (by omega)
  · intro i hi
    rw [cel]
    by_cases e : i = k
    · subst e; rw [if_neg (by omega), if_pos rfl, upd_same]
    · rw [if_neg (by omega), if_neg (by omega), if_neg (by omega), if_neg (by omega), upd_other _ _ _ _ e]; exact hP.p1 i (by omega)
  · intro i hi
    rw [cel]
    by_cases e : i = k
    · subst e; rw [if_neg (by omega), if_neg (by omega), if_pos rfl, upd_same]
    · rw [if_neg (by omega), if_neg (by omega), if_neg (by omega), if_neg (by omega), upd_other _ _ _ _ e]; exact hP.p2 i (by omega)
  · intro i hi
    rw [cel]
    by_cases e : i = k
    · subst e; rw [if_neg (by omega), if_neg (by omega), if_neg (by omega), if_pos rfl, upd_same]
    · rw [if_neg (by omega), if_neg (by omega), if_neg (by omega), if_neg (by omega), upd_other _ _ _ _ e]; exact hP.p3 i (by omega)
  · intro i hi
    by_cases e : i = k
    · subst e; rw [upd_same]; exact rowIs_of_heap (far e0 (by decide))
    · rw [upd_other _ _ _ _ e]; exact row (hP.held i (by omega)) (by decide)
  · intro i hi
    by_cases e : i = k
    · subst e; rw [upd_same]; exact rowIs_of_heap (far e1 (by decide))
    · rw [upd_other _ _ _ _ e]; exact row (hP.deli i (by omega)) (by decide)
  · intro i hi
    by_cases e : i = k
    · subst e; rw [upd_same]; exact rowIs_of_heap (far e2 (by decide))
    · rw [upd_other _ _ _ _ e]; exact row (hP.send i (by omega)) (by decide)
  · intro i hi
    by_cases e : i = k
    · subst e; rw [upd_same]; exact rowIs_of_heap (far e3 (by decide))
    · rw [upd_other _ _ _ _ e]; exact row (hP.dirc i (by omega)) (by decide)
  · intro i j hij hj
    have li := (hP.held i (by omega)).lt
    by_cases e : j = k
    · subst e; rw [upd_same, upd_other _ _ _ _ (by omega)]; omega
    · rw [upd_other _ _ _ _ e, upd_other _ _ _ _ (by omega)]; exact hP.inj i j hij (by omega)
  · refine ⟨hP.lo.1, hP.lo.2.1, hP.lo.2.2.1, fun i hi => ?_⟩
    have hsz := hP.bel.size
    by_cases e : i = k
    · subst e; rw [upd_same]; omega
    · rw [upd_other _ _ _ _ e]; exact hP.lo.2.2.2 i (by omega)

/-! ### Four new blocks, then four stores (as the walk writes it: the stores first) -/
theorem put4_alloc (w : World) (o1 : Obj) (b o : Nat) (v0 v1 v2 v3 : Value) (h : b < w.heap.size) : put4 (w.alloc o1) b o v0 v1 v2 v3 = (put4 w b o v0 v1 v2 v3).alloc o1 := by
  unfold put4
  rw [World.setCell_alloc_past _ _ _ _ h, World.setCell_alloc_past _ _ _ _ (by simpa [World.setCell] using h), World.setCell_alloc_past _ _ _ _ (by simpa [World.setCell] using h), World.setCell_alloc_past _ _ _ _ (by simpa [World.setCell] using h)]

theorem put4_four (w : World) (o1 o2 o3 o4 : Obj) (b o : Nat) (v0 v1 v2 v3 : Value) (h : b < w.heap.size) :
    ((((put4 w b o v0 v1 v2 v3).alloc o1).alloc o2).alloc o3).alloc o4 = put4 ((((w.alloc o1).alloc o2).alloc o3).alloc o4) b o v0 v1 v2 v3 := by
  rw [put4_alloc _ _ _ _ _ _ _ _ (by simp; omega), put4_alloc _ _ _ _ _ _ _ _ (by simp; omega), put4_alloc _ _ _ _ _ _ _ _ (by simp; omega), put4_alloc _ _ _ _ _ _ _ _ h]

theorem kp0 {w : World} {b i : Nat} {v : Value} (hb : b < w.heap.size) (h : w.cell? ⟨b, i, none⟩ = some v) : w.drew.cell? ⟨b, i, none⟩ = some v := h
theorem kp1 {w : World} {b i : Nat} {v : Value} (hb : b < w.heap.size) (h : w.cell? ⟨b, i, none⟩ = some v) (o1 : Obj) : (w.alloc o1).drew.cell? ⟨b, i, none⟩ = some v := by
  show (w.alloc o1).cell? _ = _
  rw [World.cell?_alloc_past _ _ _ hb]; exact h
theorem kp2 {w : World} {b i : Nat} {v : Value} (hb : b < w.heap.size) (h : w.cell? ⟨b, i, none⟩ = some v) (o1 o2 : Obj) : ((w.alloc o1).alloc o2).drew.cell? ⟨b, i, none⟩ = some v := kp1 (by simp; omega) (kp1 hb h o1) o2
theorem kp3 {w : World} {b i : Nat} {v : Value} (hb : b < w.heap.size) (h : w.cell? ⟨b, i, none⟩ = some v) (o1 o2 o3 : Obj) : (((w.alloc o1).alloc o2).alloc o3).drew.cell? ⟨b, i, none⟩ = some v := kp1 (by simp; omega) (kp2 hb h o1 o2) o3
theorem kp4 {w : World} {b i : Nat} {v : Value} (hb : b < w.heap.size) (h : w.cell? ⟨b, i, none⟩ = some v) (o1 o2 o3 o4 : Obj) : ((((w.alloc o1).alloc o2).alloc o3).alloc o4).drew.cell? ⟨b, i, none⟩ = some v := kp1 (by simp; omega) (kp3 hb h o1 o2 o3) o4
theorem kp5 {w : World} {b i : Nat} {v : Value} (hb : b < w.heap.size) (h : w.cell? ⟨b, i, none⟩ = some v) {p : Nat} (hp : p ≠ b) (o : Nat) (v0 v1 v2 v3 : Value) (o1 o2 o3 o4 : Obj) : (((((((w.setCell ⟨p, o, none⟩ v0).setCell ⟨p, o + 1, none⟩ v1).setCell ⟨p, o + 2, none⟩ v2).setCell ⟨p, o + 3, none⟩ v3).alloc o1).alloc o2).alloc o3 |>.alloc o4).drew.cell? ⟨b, i, none⟩ = some v := by
  refine kp4 (w := put4 w p o v0 v1 v2 v3) (by simpa [put4, World.setCell] using hb) ?_ o1 o2 o3 o4
  unfold put4
  rw [World.cell?_setCell_other _ _ _ _ (fun e => hp (congrArg Addr.block e)), World.cell?_setCell_other _ _ _ _ (fun e => hp (congrArg Addr.block e)), World.cell?_setCell_other _ _ _ _ (fun e => hp (congrArg Addr.block e)), World.cell?_setCell_other _ _ _ _ (fun e => hp (congrArg Addr.block e))]
  exact h

theorem heap4 (w : World) (a b c d : Obj) : ((((w.alloc a).alloc b).alloc c).alloc d).heap[w.heap.size]? = some a ∧ ((((w.alloc a).alloc b).alloc c).alloc d).heap[w.heap.size + 1]? = some b ∧
    ((((w.alloc a).alloc b).alloc c).alloc d).heap[w.heap.size + 1 + 1]? = some c ∧ ((((w.alloc a).alloc b).alloc c).alloc d).heap[w.heap.size + 1 + 1 + 1]? = some d := by
  obtain ⟨h1, h2, h3⟩ := heap3 w a b c
  refine ⟨?_, ?_, ?_, ?_⟩
  · rw [Below.heap_alloc _ _ _ (by simp; omega)]; exact h1
  · rw [Below.heap_alloc _ _ _ (by simp)]; exact h2
  · rw [Below.heap_alloc _ _ _ (by simp)]; exact h3
  · have := heap_alloc_new (((w.alloc a).alloc b).alloc c) d; simpa using this

theorem Part.drew {w W : World} {su sb pb fb n m k : Nat} {hb db nb rb : Nat → Nat} (h : Part w W su sb pb fb n m k hb db nb rb) : Part w W.drew su sb pb fb n m k hb db nb rb := by
  obtain ⟨a1, a2, a3, a4, a5, a6, a7, a8, a9, a10, a11, a12, a13, a14⟩ := h
  exact ⟨a1, a2, a3, a4, a5, a6, a7, a8, a9, a10, a11, a12, a13, a14.drew⟩

/-- One round, in the walk's spelling. -/
theorem part_round {w wr : World} {su sb pb fb n m k : Nat} {hb db nb rb : Nat → Nat} {h d s r : Nat} (hP : Part w wr su sb pb fb n m k hb db nb rb) (hk : k < n) (a b c e : Obj) (hh : wr.heap.size ≤ h)
    (e0 : ((((wr.alloc a).alloc b).alloc c).alloc e).heap[h]? = some (.cells (madeCells #[.int .i64 0] m) 3 (0, 0))) (e1 : ((((wr.alloc a).alloc b).alloc c).alloc e).heap[d]? = some (.cells (madeCells #[.bool false] m) 4 (0, 0)))
    (e2 : ((((wr.alloc a).alloc b).alloc c).alloc e).heap[s]? = some (.cells (madeCells #[.int .i64 0] m) 3 (0, 0))) (e3 : ((((wr.alloc a).alloc b).alloc c).alloc e).heap[r]? = some (.cells (madeCells #[.bool false] m) 4 (0, 0))) :
    ∃ hb' db' nb' rb', Part w (((((((wr.setCell ⟨pb, k * 4, none⟩ (.slice (some ⟨h, 0, none⟩) m m)).setCell ⟨pb, k * 4 + 1, none⟩ (.slice (some ⟨d, 0, none⟩) m m)).setCell ⟨pb, k * 4 + 2, none⟩ (.slice (some ⟨s, 0, none⟩) m m)).setCell ⟨pb, k * 4 + 3, none⟩ (.slice (some ⟨r, 0, none⟩) m m)).alloc a).alloc b).alloc c |>.alloc e).drew
      su sb pb fb n m (k + 1) hb' db' nb' rb' := by
  obtain ⟨cur, hc, hcs⟩ := hP.shp
  have lp := lt_of_heap hc
  have hsz := hP.bel.size
  have hst := part_step hP hk (W := ((((wr.alloc a).alloc b).alloc c).alloc e)) (fun i hi => by
      rw [Below.heap_alloc _ _ _ (by simp; omega), Below.heap_alloc _ _ _ (by simp; omega), Below.heap_alloc _ _ _ (by simp; omega), Below.heap_alloc _ _ _ hi])
    ((((hP.bel.alloc hsz _).alloc (by simp; omega) _).alloc (by simp; omega) _).alloc (by simp; omega) _) hh e0 e1 e2 e3
  rw [← put4_four _ _ _ _ _ _ _ _ _ _ _ lp] at hst
  have hst' := hst.drew
  unfold put4 at hst'
  exact ⟨upd hb k h, upd db k d, upd nb k s, upd rb k r, hst'⟩
end Go.Proofs.Ybulkvuk
