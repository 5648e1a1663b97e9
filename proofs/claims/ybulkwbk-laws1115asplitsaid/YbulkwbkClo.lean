import Derived.Test.YbulkwbkSame
import Derived.Deep.RegionLaw
import Derived.Deep.AppendLies
import Derived.Deep.DrawnRows
import Derived.Deep.DeepCutAuto
namespace Go.Proofs.Ybulkwbk
open Go.RowKit
set_option linter.unusedVariables false
attribute [local go_sem ↓] Go.wp_at_zero Go.wp_at_succ

/-- The law's own predicate: mask[c.Rekeys]. -/
theorem clo7 (mb mab moff n mc i b : Nat) (x : Bool) (hi : i < n) (hn : n ≤ 1024) (w : World) (h0 : w.cell? ⟨mb, 0, none⟩ = some (.slice (some ⟨mab, moff, none⟩) n mc))
    (h1 : w.cell? ⟨b, 12, none⟩ = some (.int .i64 i)) (h2 : w.cell? ⟨mab, moff + i, none⟩ = some (.bool x)) :
    Calls Yba.prog 7 #[pt b, .pointer (some ⟨mb, 0, none⟩)] w fun e w' => e = .returned (.bool x) ∧ ∃ q, w' = w.drewN q := by
  have b0 : (0 : Int) ≤ (i : Int) := by omega
  have b1 : (i : Int) < (n : Int) := by omega
  go_enter Yba.func7, Yba.ntmps7
  go_wp2
  go_quiet (fail)
  go_wp2
  go_ret
  exact ⟨rfl, _, rfl⟩

/-- What lies still: all blocks below B, and all blocks whose element type is not 25 (a *Child), but those of X. -/
structure Fr (B : Nat) (X : Nat → Prop) (w w' : World) : Prop where
  os : w'.os = w.os
  tape : w'.tape = w.tape
  output : w'.output = w.output
  size : w.heap.size ≤ w'.heap.size
  low : ∀ k, k < B → ¬ X k → w'.heap[k]? = w.heap[k]?
  typ : ∀ k c t fz, w.heap[k]? = some (.cells c t fz) → t ≠ 25 → ¬ X k → w'.heap[k]? = w.heap[k]?

theorem Fr.refl (B : Nat) (X : Nat → Prop) (w : World) : Fr B X w w := ⟨rfl, rfl, rfl, Nat.le_refl _, fun _ _ _ => rfl, fun _ _ _ _ _ _ _ => rfl⟩
theorem Fr.trans {B : Nat} {X : Nat → Prop} {a b c : World} (h : Fr B X a b) (k : Fr B X b c) : Fr B X a c :=
  ⟨k.os.trans h.os, k.tape.trans h.tape, k.output.trans h.output, Nat.le_trans h.size k.size, fun i hi hx => (k.low i hi hx).trans (h.low i hi hx),
    fun i cs t fz hh ht hx => (k.typ i cs t fz ((h.typ i cs t fz hh ht hx).trans hh) ht hx).trans (h.typ i cs t fz hh ht hx)⟩
theorem Fr.mono {B : Nat} {X Y : Nat → Prop} {a b : World} (h : Fr B X a b) (hxy : ∀ k, X k → Y k) : Fr B Y a b :=
  ⟨h.os, h.tape, h.output, h.size, fun i hi hx => h.low i hi fun hh => hx (hxy i hh), fun i cs t fz hh ht hx => h.typ i cs t fz hh ht fun hh => hx (hxy i hh)⟩
theorem Fr.drewN {B : Nat} {X : Nat → Prop} {a b : World} (h : Fr B X a b) (q : Nat) : Fr B X a (b.drewN q) :=
  h.trans ⟨rfl, rfl, rfl, Nat.le_refl _, fun _ _ _ => rfl, fun _ _ _ _ _ _ _ => rfl⟩
theorem Fr.drew {B : Nat} {X : Nat → Prop} {a b : World} (h : Fr B X a b) : Fr B X a b.drew :=
  h.trans ⟨rfl, rfl, rfl, Nat.le_refl _, fun _ _ _ => rfl, fun _ _ _ _ _ _ _ => rfl⟩
theorem Fr.alloc {B : Nat} {X : Nat → Prop} {a b : World} (h : Fr B X a b) (hB : B ≤ b.heap.size) (o : Obj) : Fr B X a (b.alloc o) :=
  h.trans ⟨rfl, rfl, rfl, by simp, fun k hk _ => Below.heap_alloc _ _ _ (by omega), fun k c t fz hh _ _ => Below.heap_alloc _ _ _ (lt_of_heap hh)⟩
theorem Fr.setCell {B : Nat} {X : Nat → Prop} {a b : World} (h : Fr B X a b) {p : Addr} (hp : X p.block) (u : Value) : Fr B X a (b.setCell p u) :=
  h.trans ⟨rfl, rfl, rfl, by simp [World.setCell], fun k hk hx => Below.heap_setCell _ _ _ _ (fun e => hx (e ▸ hp)), fun k c t fz hh _ hx => Below.heap_setCell _ _ _ _ (fun e => hx (e ▸ hp))⟩
/-- Behind an append to a row of *Child from B on. -/
theorem Fr.grown {B : Nat} {X : Nat → Prop} {a b c : World} {v : Value} {n : Nat} {xs : List Value} (h : Fr B X a b) (hB : B ≤ b.heap.size) (ho : b.ownsRow B 25 1 v n xs) (hg : b.grownBy c v.ownBlock) : Fr B X a c := by
  refine h.trans ⟨hg.os, hg.tape, hg.output, hg.size, fun k hk _ => hg.block k (by omega) (fun e => by have := (ho.lt k e.symm).1; omega), fun k cs t fz hh ht _ => hg.block k (lt_of_heap hh) ?_⟩
  intro e
  rcases ho.2 with ⟨rfl, _⟩ | ⟨g, cap, cur, rfl, _, hg', _⟩
  · simp [Value.ownBlock] at e
  · simp only [Value.ownBlock, Option.some.injEq] at e
    subst e
    rw [hg'] at hh
    simp at hh
    exact ht hh.2.1.symm

theorem Fr.cellLow {B : Nat} {X : Nat → Prop} {w w' : World} (h : Fr B X w w') {b o : Nat} (hb : b < B) (hx : ¬ X b) : w'.cell? ⟨b, o, none⟩ = w.cell? ⟨b, o, none⟩ :=
  World.cell?_of_block (w := w) (h.low b hb hx)

/-- What the predicate reads: the boxes of drop, the law's mask, the children. -/
structure Env (w : World) (B csb sab bg bs mb : Nat) (ma : Option Addr) (n mc : Nat) (Mk : Nat → Bool) (ob : Nat → Nat) : Prop where
  boxg : w.heap[bg]? = some (.cells #[.func (.func 7) #[] #[.pointer (some ⟨mb, 0, none⟩)]] 89 (0, 0))
  boxs : w.heap[bs]? = some (.cells #[pt sab] 44 (0, 0))
  mbox : w.cell? ⟨mb, 0, none⟩ = some (.slice ma n mc)
  mask : ∀ i, i < n → ∃ mab moff, ma = some ⟨mab, moff, none⟩ ∧ mab < B ∧ mab ≠ csb ∧ w.cell? ⟨mab, moff + i, none⟩ = some (.bool (Mk i))
  kid : ∀ i, i < n → ob i < B ∧ ob i ≠ csb ∧ w.cell? ⟨ob i, 12, none⟩ = some (.int .i64 i)
  low : mb < B ∧ mb ≠ csb ∧ bg ≠ sab ∧ bs ≠ sab ∧ B ≤ sab ∧ csb < B ∧ bg ≠ csb ∧ bs ≠ csb

theorem Env.fr {w w' : World} {B csb sab bg bs mb : Nat} {ma : Option Addr} {n mc : Nat} {Mk : Nat → Bool} {ob : Nat → Nat} (h : Env w B csb sab bg bs mb ma n mc Mk ob) (hf : Fr B (fun k => k = sab ∨ k = csb) w w') : Env w' B csb sab bg bs mb ma n mc Mk ob := by
  obtain ⟨h1, h2, h3, h4, h5, h6, h7, h8, h9, h10, h11, h12, h13⟩ := h
  have nx : ∀ b, b < B → b ≠ csb → ¬ (b = sab ∨ b = csb) := fun b hb hc e => by rcases e with e | e; omega; exact hc e
  refine ⟨?_, ?_, ?_, ?_, ?_, h6, h7, h8, h9, h10, h11, h12, h13⟩
  · rw [hf.typ bg _ _ _ h1 (by decide) (fun e => by rcases e with e | e; exact h8 e; exact h12 e)]; exact h1
  · rw [hf.typ bs _ _ _ h2 (by decide) (fun e => by rcases e with e | e; exact h9 e; exact h13 e)]; exact h2
  · rw [hf.cellLow h6 (nx mb h6 h7)]; exact h3
  · intro i hi
    obtain ⟨mab, moff, e, hb, hc, hh⟩ := h4 i hi
    exact ⟨mab, moff, e, hb, hc, by rw [hf.cellLow hb (nx mab hb hc)]; exact hh⟩
  · intro i hi
    obtain ⟨hb, hc, hh⟩ := h5 i hi
    exact ⟨hb, hc, by rw [hf.cellLow hb (nx _ hb hc)]; exact hh⟩

/-- sa's block, its field deleted holding vd; the pointers that vd holds. -/
structure DSt (w : World) (B sab : Nat) (cur : Array Value) (vd : Value) (D : List Nat) : Prop where
  blk : w.heap[sab]? = some (.cells (cur.setIfInBounds 79 vd) 87 (0, 0))
  size : cur.size = 80
  own : w.ownsRow B 25 1 vd D.length (D.map pt)
  hB : B ≤ w.heap.size

theorem DSt.drewN {w : World} {B sab : Nat} {cur : Array Value} {vd : Value} {D : List Nat} (h : DSt w B sab cur vd D) (q : Nat) : DSt (w.drewN q) B sab cur vd D := ⟨h.blk, h.size, h.own, h.hB⟩
end Go.Proofs.Ybulkwbk
