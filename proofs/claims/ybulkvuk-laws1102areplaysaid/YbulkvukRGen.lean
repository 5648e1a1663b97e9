import Derived.Test.YbulkvukRBlk
import Derived.Deep.LoopGhost
import Derived.Deep.RegionHeld3
import Derived.Deep.DrawnRows
import Derived.Deep.QuietTactic
import Derived.BigQuiet
import Derived.Laws.BitsAllLaws
namespace Go.Proofs.Ybulkvuk
open Go.RowKit
set_option linter.unusedVariables false

/-- A generator: the buffer's 32 words, the seed's four, the place, the buffer's bound, the counter. -/
structure Gen where
  buf : List Nat
  s0 : Nat
  s1 : Nat
  s2 : Nat
  s3 : Nat
  i : Nat
  n : Nat
  c : Nat

structure GOk (G : Gen) : Prop where
  len : G.buf.length = 32
  word : ∀ (k x : Nat), G.buf[k]? = some x → x < 18446744073709551616
  l0 : G.s0 < 18446744073709551616
  l1 : G.s1 < 18446744073709551616
  l2 : G.s2 < 18446744073709551616
  l3 : G.s3 < 18446744073709551616
  hi : G.i ≤ G.n
  hn : G.n = 32 ∨ G.n = 28
  hc : G.c = 0 ∨ G.c = 4 ∨ G.c = 8 ∨ G.c = 12

/-- Block gb holds the generator G. -/
structure GenAt (w : World) (gb : Nat) (G : Gen) : Prop where
  buf : ∀ (k x : Nat), G.buf[k]? = some x → w.cell? ⟨gb, k, none⟩ = some (.int .u64 (x : Int))
  c0 : w.cell? ⟨gb, 32, none⟩ = some (.int .u64 (G.s0 : Int))
  c1 : w.cell? ⟨gb, 33, none⟩ = some (.int .u64 (G.s1 : Int))
  c2 : w.cell? ⟨gb, 34, none⟩ = some (.int .u64 (G.s2 : Int))
  c3 : w.cell? ⟨gb, 35, none⟩ = some (.int .u64 (G.s3 : Int))
  ci : w.cell? ⟨gb, 36, none⟩ = some (.int .u32 (G.i : Int))
  cn : w.cell? ⟨gb, 37, none⟩ = some (.int .u32 (G.n : Int))
  cc : w.cell? ⟨gb, 38, none⟩ = some (.int .u32 (G.c : Int))
  fz : ∀ k, w.frozen? ⟨gb, k, none⟩ = false

theorem and31 {i : Nat} (h : i < 32) : bits .and .u32 (i : Int) 31 = (i : Int) := by
  have h1 := u32_and_nat i 31 (by omega) (by omega)
  have h2 := Nat.and_two_pow_sub_one_eq_mod i 5
  simp at h1 h2
  rw [h1, h2]
  omega

set_option maxRecDepth 100000 in
/-- (*State).Next where a word is left. -/
theorem next_yes (gb : Nat) (G : Gen) (x : Nat) (w : World) (hG : GenAt w gb G) (hO : GOk G) (hlt : G.i < G.n) (hx : G.buf[G.i]? = some x) :
    Calls Yba.prog 56 #[.pointer (some ⟨gb, 0, none⟩)] w fun e w' => e = .returned (.tuple #[.int .u64 (x : Int), .bool true]) ∧ w' = w.setCell ⟨gb, 36, none⟩ (.int .u32 ((G.i + 1 : Nat) : Int)) := by
  have hci := hG.ci
  have hcn := hG.cn
  have hf := hG.fz 36
  have hb := hG.buf _ _ hx
  have b1 : ¬ ((G.n : Int) ≤ (G.i : Int)) := by omega
  have hn := hO.hn
  have h32 : G.i < 32 := by omega
  have ha := and31 h32
  have hne : ¬ (36 = G.i) := by omega
  generalize G.i = i at *
  generalize G.n = n at *
  go_enter Yba.func56, Yba.ntmps56
  go_wp2
  go_ret2
  exact ⟨rfl, rfl⟩

set_option maxRecDepth 100000 in
/-- (*State).Next where no word is left. -/
theorem next_no (gb : Nat) (G : Gen) (w : World) (hG : GenAt w gb G) (hlt : G.i = G.n) :
    Calls Yba.prog 56 #[.pointer (some ⟨gb, 0, none⟩)] w fun e w' => e = .returned (.tuple #[.int .u64 0, .bool false]) ∧ w' = w := by
  have hci := hG.ci
  have hcn := hG.cn
  rw [hlt] at hci
  generalize G.n = n at *
  clear hG hlt
  go_enter Yba.func56, Yba.ntmps56
  go_wp2
  go_ret2
  exact ⟨rfl, rfl⟩

theorem call_block (w : World) (gb c s0 s1 s2 s3 : Nat)
    (h0 : w.cell? ⟨gb, 32, none⟩ = some (.int .u64 s0)) (h1 : w.cell? ⟨gb, 33, none⟩ = some (.int .u64 s1)) (h2 : w.cell? ⟨gb, 34, none⟩ = some (.int .u64 s2)) (h3 : w.cell? ⟨gb, 35, none⟩ = some (.int .u64 s3))
    (hb : ∀ k, k < 32 → (w.cell? ⟨gb, k, none⟩).isSome = true) (hf : ∀ k, w.frozen? ⟨gb, k, none⟩ = false) :
    (callFunc 62 #[.pointer (some ⟨gb, 32, none⟩), .pointer (some ⟨gb, 0, none⟩), .int .u32 c]).run Yba.prog w = .ok (.value (.tuple #[])) (w.setCells gb 0 (blkCells (keyOf s0 s1 s2 s3) c)) := by
  rw [run_callFunc_extern Yba.func62 (by kernel_rfl) (by kernel_rfl) (by kernel_rfl) (e := Extern.Chacha8Block.block) (by kernel_rfl), run_block w gb c s0 s1 s2 s3 h0 h1 h2 h3 hb hf]
  rfl

/-- What Refill makes of a generator. -/
def refillG (G : Gen) : Gen :=
  if G.c = 12 then { buf := (List.range 32).map (blockWord (keyOf (G.buf.getD 28 0) (G.buf.getD 29 0) (G.buf.getD 30 0) (G.buf.getD 31 0)) 0), s0 := G.buf.getD 28 0, s1 := G.buf.getD 29 0, s2 := G.buf.getD 30 0, s3 := G.buf.getD 31 0, i := 0, n := 32, c := 0 }
  else { buf := (List.range 32).map (blockWord (keyOf G.s0 G.s1 G.s2 G.s3) (G.c + 4)), s0 := G.s0, s1 := G.s1, s2 := G.s2, s3 := G.s3, i := 0, n := if G.c = 8 then 28 else 32, c := G.c + 4 }

/-- The world behind a block's call: the cells of the buffer, and no others. -/
structure Filled (w w' : World) (gb : Nat) (B : List Nat) : Prop where
  buf : ∀ (k x : Nat), B[k]? = some x → w'.cell? ⟨gb, k, none⟩ = some (.int .u64 (x : Int))
  rest : ∀ k, 32 ≤ k → w'.cell? ⟨gb, k, none⟩ = w.cell? ⟨gb, k, none⟩
  fz : ∀ a, w'.frozen? a = w.frozen? a
  oth : ∀ b, b ≠ gb → w'.heap[b]? = w.heap[b]?
  size : w'.heap.size = w.heap.size
  os : w'.os = w.os
  tape : w'.tape = w.tape
  output : w'.output = w.output

theorem setCells_heap (gb : Nat) : ∀ (vs : List Value) (o : Nat) (w : World), (∀ b, b ≠ gb → (w.setCells gb o vs).heap[b]? = w.heap[b]?) ∧ (w.setCells gb o vs).heap.size = w.heap.size ∧ (w.setCells gb o vs).os = w.os ∧ (w.setCells gb o vs).tape = w.tape ∧ (w.setCells gb o vs).output = w.output
  | [], o, w => ⟨fun _ _ => rfl, rfl, rfl, rfl, rfl⟩
  | v :: r, o, w => by
    obtain ⟨h1, h2, h3, h4, h5⟩ := setCells_heap gb r (o + 1) (w.setCell ⟨gb, o, none⟩ v)
    rw [World.setCells]
    refine ⟨fun b hb => (h1 b hb).trans ?_, h2.trans ?_, h3.trans rfl, h4.trans rfl, h5.trans rfl⟩
    · rw [World.setCell]; simp only [Array.getElem?_modify]; rw [if_neg (Ne.symm hb)]
    · simp [World.setCell]

theorem filled (w : World) (gb : Nat) (key : Array Nat) (c : Nat) (hb : ∀ k, k < 32 → (w.cell? ⟨gb, k, none⟩).isSome = true) : Filled w (w.setCells gb 0 (blkCells key c)) gb ((List.range 32).map (blockWord key c)) := by
  obtain ⟨h1, h2, h3, h4, h5⟩ := setCells_heap gb (blkCells key c) 0 w
  have hl : (blkCells key c).length = 32 := by simp [blkCells]
  refine ⟨?_, ?_, fun a => World.frozen?_setCells gb _ _ _ _, h1, h2, h3, h4, h5⟩
  · intro k x hk
    have hk' : k < 32 := by have := (List.getElem?_eq_some_iff.1 hk).1; simpa using this
    have := World.cell?_setCells_in gb (blkCells key c) 0 w (fun i hi => by rw [Nat.zero_add]; exact hb i (by omega)) k (by omega)
    rw [Nat.zero_add] at this
    rw [this]
    simp [blkCells, hk'] at hk ⊢
    rw [hk]
  · intro k hk
    exact World.cell?_setCells_out gb _ _ _ _ (fun _ _ => .inr (by rw [hl]; show 0 + 32 ≤ k; omega))

/-- A frame: all but the blocks of X stands as it was; new blocks may be there. -/
structure Tr (X : List Nat) (w w' : World) : Prop where
  os : w'.os = w.os
  tape : w'.tape = w.tape
  output : w'.output = w.output
  size : w.heap.size ≤ w'.heap.size
  block : ∀ k, k < w.heap.size → k ∉ X → w'.heap[k]? = w.heap[k]?

theorem Tr.refl (X : List Nat) (w : World) : Tr X w w := ⟨rfl, rfl, rfl, Nat.le_refl _, fun _ _ _ => rfl⟩
theorem Tr.trans {X : List Nat} {a b c : World} (h : Tr X a b) (k : Tr X b c) : Tr X a c :=
  ⟨k.os.trans h.os, k.tape.trans h.tape, k.output.trans h.output, Nat.le_trans h.size k.size, fun i hi hx => (k.block i (Nat.lt_of_lt_of_le hi h.size) hx).trans (h.block i hi hx)⟩
theorem Tr.mono {X Y : List Nat} {a b : World} (h : Tr X a b) (hs : ∀ k, k ∈ X → k ∈ Y) : Tr Y a b := ⟨h.os, h.tape, h.output, h.size, fun i hi hx => h.block i hi fun hc => hx (hs i hc)⟩
theorem Tr.setCell {X : List Nat} {a b : World} (h : Tr X a b) (g o : Nat) (v : Value) (hg : g ∈ X) : Tr X a (b.setCell ⟨g, o, none⟩ v) := by
  refine ⟨h.os, h.tape, h.output, by simpa [World.setCell] using h.size, fun i hi hx => ?_⟩
  rw [← h.block i hi hx, World.setCell]
  simp only [Array.getElem?_modify]
  rw [if_neg (fun e => hx (by rw [← e]; exact hg))]
theorem Tr.drewN {X : List Nat} {a b : World} (h : Tr X a b) (q : Nat) : Tr X a (b.drewN q) := ⟨h.os, h.tape, h.output, h.size, h.block⟩
theorem Tr.alloc {X : List Nat} {a b : World} (h : Tr X a b) (o : Obj) : Tr X a (b.alloc o) :=
  ⟨h.os, h.tape, h.output, by have := h.size; simp; omega, fun i hi hx => by rw [heap_alloc_old _ _ (Nat.lt_of_lt_of_le hi h.size)]; exact h.block i hi hx⟩
theorem Tr.filled {X : List Nat} {a b c : World} {gb : Nat} {B : List Nat} (h : Tr X a b) (hF : Filled b c gb B) (hg : gb ∈ X) : Tr X a c :=
  ⟨hF.os.trans h.os, hF.tape.trans h.tape, hF.output.trans h.output, by rw [hF.size]; exact h.size, fun i hi hx => (hF.oth i (fun e => hx (e ▸ hg))).trans (h.block i hi hx)⟩

set_option maxRecDepth 100000 in
/-- (*State).Refill, no new seed. -/
theorem refill_plain (gb : Nat) (G : Gen) (w : World) (hG : GenAt w gb G) (hO : GOk G) (hc : G.c ≠ 12) :
    Calls Yba.prog 57 #[.pointer (some ⟨gb, 0, none⟩)] w fun e w' => e = .returned (.tuple #[]) ∧ GenAt w' gb (refillG G) ∧ Tr [gb] w w' := by
  have hcc := hG.cc
  have hf := hG.fz
  obtain ⟨c4, hc4⟩ : ∃ c4, c4 = G.c + 4 := ⟨_, rfl⟩
  have hcs := hO.hc
  have e4 : (c4 : Int) = (G.c : Int) + 4 := by omega
  have h16 : ¬ ((G.c : Int) + 4 = 16) := by omega
  obtain ⟨w1, hw1⟩ : ∃ w1, w1 = (w.setCell ⟨gb, 38, none⟩ (.int .u32 (c4 : Int))).drew := ⟨_, rfl⟩
  have k1 : ∀ k, k ≠ 38 → w1.cell? ⟨gb, k, none⟩ = w.cell? ⟨gb, k, none⟩ := fun k hk => by
    rw [hw1]; exact World.cell?_setCell_other _ _ _ _ (fun e => hk (by simpa using e.symm))
  have k38 : w1.cell? ⟨gb, 38, none⟩ = some (.int .u32 (c4 : Int)) := by rw [hw1]; exact World.cell?_setCell_same _ _ _ hcc
  have kf : ∀ k, w1.frozen? ⟨gb, k, none⟩ = false := fun k => by rw [hw1]; show World.frozen? (w.setCell _ _) _ = _; rw [World.frozen?_setCell]; exact hf k
  have kb : ∀ k, k < 32 → (w1.cell? ⟨gb, k, none⟩).isSome = true := fun k hk => by
    rw [k1 k (by omega), hG.buf k _ (List.getElem?_eq_getElem (by rw [hO.len]; exact hk))]; rfl
  have hcall := call_block w1 gb c4 G.s0 G.s1 G.s2 G.s3 ((k1 32 (by decide)).trans hG.c0) ((k1 33 (by decide)).trans hG.c1) ((k1 34 (by decide)).trans hG.c2) ((k1 35 (by decide)).trans hG.c3) kb kf
  have hF := filled w1 gb (keyOf G.s0 G.s1 G.s2 G.s3) c4 kb
  have hT1 : Tr [gb] w w1 := by rw [hw1]; exact ((Tr.refl _ w).setCell gb 38 _ (by simp)).drewN 1
  generalize w1.setCells gb 0 (blkCells (keyOf G.s0 G.s1 G.s2 G.s3) c4) = w2 at *
  have hT2 := hT1.filled hF (by simp)
  have q38 := (hF.rest 38 (by decide)).trans k38
  obtain ⟨v36, q36⟩ : ∃ v, w2.cell? ⟨gb, 36, none⟩ = some v := ⟨_, ((hF.rest 36 (by decide)).trans (k1 36 (by decide))).trans hG.ci⟩
  obtain ⟨v37, q37⟩ : ∃ v, w2.cell? ⟨gb, 37, none⟩ = some v := ⟨_, ((hF.rest 37 (by decide)).trans (k1 37 (by decide))).trans hG.cn⟩
  have qf : ∀ k, w2.frozen? ⟨gb, k, none⟩ = false := fun k => (hF.fz _).trans (kf k)
  rw [hw1] at hcall
  have fin : ∀ nn : Nat, (nn = if G.c = 8 then 28 else 32) → ∀ w', (∀ k, k ≠ 36 → k ≠ 37 → w'.cell? ⟨gb, k, none⟩ = w2.cell? ⟨gb, k, none⟩) → w'.cell? ⟨gb, 36, none⟩ = some (.int .u32 0) → w'.cell? ⟨gb, 37, none⟩ = some (.int .u32 (nn : Int)) → (∀ k, w'.frozen? ⟨gb, k, none⟩ = false) → GenAt w' gb (refillG G) := by
    intro nn hnn w' ho h36 h37 hfz
    unfold refillG
    rw [if_neg hc]
    refine ⟨fun k x hx => ?_, ?_, ?_, ?_, ?_, h36, by rw [← hnn]; exact h37, ?_, hfz⟩
    · have hk : k < 32 := by have := (List.getElem?_eq_some_iff.1 hx).1; simpa using this
      rw [ho k (by omega) (by omega)]
      rw [← hc4] at hx
      exact hF.buf k x hx
    · rw [ho 32 (by decide) (by decide), hF.rest 32 (by decide), k1 32 (by decide)]; exact hG.c0
    · rw [ho 33 (by decide) (by decide), hF.rest 33 (by decide), k1 33 (by decide)]; exact hG.c1
    · rw [ho 34 (by decide) (by decide), hF.rest 34 (by decide), k1 34 (by decide)]; exact hG.c2
    · rw [ho 35 (by decide) (by decide), hF.rest 35 (by decide), k1 35 (by decide)]; exact hG.c3
    · rw [ho 38 (by decide) (by decide), q38, hc4]
  have FIN : Hid (∀ nn : Nat, (nn = if G.c = 8 then 28 else 32) → ∀ w', (∀ k, k ≠ 36 → k ≠ 37 → w'.cell? ⟨gb, k, none⟩ = w2.cell? ⟨gb, k, none⟩) → w'.cell? ⟨gb, 36, none⟩ = some (.int .u32 0) → w'.cell? ⟨gb, 37, none⟩ = some (.int .u32 (nn : Int)) → (∀ k, w'.frozen? ⟨gb, k, none⟩ = false) → GenAt w' gb (refillG G)) := fin
  have HT : Hid (Tr [gb] w w2) := hT2
  have HC : Hid (c4 = G.c + 4) := hc4
  rw [e4] at hcall q38
  clear fin hF hT1 hT2 kb kf k1 k38 hw1 hc4
  have fends : ∀ nn : Int, ∀ a k, ((w2.setCell ⟨gb, 36, none⟩ (.int .u32 0)).setCell ⟨gb, 37, none⟩ (.int .u32 nn)).frozen? ⟨a, k, none⟩ = w2.frozen? ⟨a, k, none⟩ := fun nn a k => by rw [World.frozen?_setCell, World.frozen?_setCell]
  have two : ∀ nn : Int, (∀ k, k ≠ 36 → k ≠ 37 → ((w2.setCell ⟨gb, 36, none⟩ (.int .u32 0)).setCell ⟨gb, 37, none⟩ (.int .u32 nn)).cell? ⟨gb, k, none⟩ = w2.cell? ⟨gb, k, none⟩) ∧ ((w2.setCell ⟨gb, 36, none⟩ (.int .u32 0)).setCell ⟨gb, 37, none⟩ (.int .u32 nn)).cell? ⟨gb, 36, none⟩ = some (.int .u32 0) ∧ ((w2.setCell ⟨gb, 36, none⟩ (.int .u32 0)).setCell ⟨gb, 37, none⟩ (.int .u32 nn)).cell? ⟨gb, 37, none⟩ = some (.int .u32 nn) := fun nn => by
    refine ⟨fun k h1 h2 => ?_, ?_, ?_⟩
    · rw [World.cell?_setCell_other _ _ _ _ (fun e => h2 (by simpa using e.symm)), World.cell?_setCell_other _ _ _ _ (fun e => h1 (by simpa using e.symm))]
    · rw [World.cell?_setCell_other _ _ _ _ (fun e => by simp at e)]; exact World.cell?_setCell_same _ _ _ q36
    · exact World.cell?_setCell_same _ _ _ (by rw [World.cell?_setCell_other _ _ _ _ (fun e => by simp at e)]; exact q37)
  have three : (∀ k, k ≠ 36 → k ≠ 37 → (((w2.setCell ⟨gb, 36, none⟩ (.int .u32 0)).setCell ⟨gb, 37, none⟩ (.int .u32 32)).setCell ⟨gb, 37, none⟩ (.int .u32 28)).cell? ⟨gb, k, none⟩ = w2.cell? ⟨gb, k, none⟩) ∧ (((w2.setCell ⟨gb, 36, none⟩ (.int .u32 0)).setCell ⟨gb, 37, none⟩ (.int .u32 32)).setCell ⟨gb, 37, none⟩ (.int .u32 28)).cell? ⟨gb, 36, none⟩ = some (.int .u32 0) ∧ (((w2.setCell ⟨gb, 36, none⟩ (.int .u32 0)).setCell ⟨gb, 37, none⟩ (.int .u32 32)).setCell ⟨gb, 37, none⟩ (.int .u32 28)).cell? ⟨gb, 37, none⟩ = some (.int .u32 28) := by
    obtain ⟨t1, t2, t3⟩ := two 32
    refine ⟨fun k h1 h2 => ?_, ?_, ?_⟩
    · rw [World.cell?_setCell_other _ _ _ _ (fun e => h2 (by simpa using e.symm))]; exact t1 k h1 h2
    · rw [World.cell?_setCell_other _ _ _ _ (fun e => by simp at e)]; exact t2
    · exact World.cell?_setCell_same _ _ _ t3
  have THREE : Hid _ := three
  have TWO : Hid _ := two
  have FE : Hid _ := fends
  clear two fends three
  by_cases h12 : c4 = 12
  · have b12 : (G.c : Int) + 4 = 12 := by omega
    clear e4
    rw [b12] at hcall q38
    go_enter Yba.func57, Yba.ntmps57
    go_wp2
    go_region
    go_wp2
    go_end0
    refine ⟨rfl, FIN.out 28 (by rw [if_pos]; have := HC.out; omega) _ (THREE.out).1 (THREE.out).2.1 (THREE.out).2.2 (fun k => by rw [World.frozen?_setCell]; exact (FE.out _ _ k).trans (qf k)), ((HT.out.setCell _ _ _ (by simp)).setCell _ _ _ (by simp)).setCell _ _ _ (by simp)⟩
  · have b12 : ¬ ((G.c : Int) + 4 = 12) := by omega
    clear e4
    go_enter Yba.func57, Yba.ntmps57
    go_wp2
    go_region
    go_wp2
    go_end0
    refine ⟨rfl, FIN.out 32 (by rw [if_neg]; have := HC.out; omega) _ (TWO.out _).1 (TWO.out _).2.1 (TWO.out _).2.2 (fun k => (FE.out _ _ k).trans (qf k)), (HT.out.setCell _ _ _ (by simp)).setCell _ _ _ (by simp)⟩

/-- What the cells of block gb hold. -/
def At (w : World) (gb : Nat) (f : Nat → Option Value) : Prop := ∀ k, w.cell? ⟨gb, k, none⟩ = f k
theorem At.set {w : World} {gb : Nat} {f : Nat → Option Value} (h : At w gb f) (o : Nat) (v : Value) (ho : (f o).isSome = true) : At (w.setCell ⟨gb, o, none⟩ v) gb (fun k => if k = o then some v else f k) := by
  intro k
  show _ = if k = o then some v else f k
  by_cases hk : k = o
  · subst hk
    obtain ⟨u, hu⟩ := Option.isSome_iff_exists.1 ho
    rw [if_pos rfl]
    exact World.cell?_setCell_same _ _ _ ((h k).trans hu)
  · rw [if_neg hk, World.cell?_setCell_other _ _ _ _ (fun e => hk (by simpa using e.symm))]; exact h k
theorem At.drew {w : World} {gb : Nat} {f : Nat → Option Value} (h : At w gb f) : At w.drew gb f := h

def Fz (w : World) (gb : Nat) : Prop := ∀ k, w.frozen? ⟨gb, k, none⟩ = false
theorem Fz.set {w : World} {gb : Nat} (h : Fz w gb) (a : Addr) (v : Value) : Fz (w.setCell a v) gb := fun k => by rw [World.frozen?_setCell]; exact h k
theorem Fz.drew {w : World} {gb : Nat} (h : Fz w gb) : Fz w.drew gb := h
theorem Tr.drew {X : List Nat} {a b : World} (h : Tr X a b) : Tr X a b.drew := ⟨h.os, h.tape, h.output, h.size, h.block⟩

set_option maxRecDepth 100000 in
/-- (*State).Refill, a new seed. -/
theorem refill_seed (gb : Nat) (G : Gen) (w : World) (hG : GenAt w gb G) (hO : GOk G) (hc : G.c = 12) :
    Calls Yba.prog 57 #[.pointer (some ⟨gb, 0, none⟩)] w fun e w' => e = .returned (.tuple #[]) ∧ GenAt w' gb (refillG G) ∧ Tr [gb] w w' := by
  have hcc := hG.cc
  have hf := hG.fz
  rw [hc] at hcc
  simp at hcc
  have h0 := hG.c0
  have h1 := hG.c1
  have h2 := hG.c2
  have h3 := hG.c3
  have g : ∀ k, k < 32 → w.cell? ⟨gb, k, none⟩ = some (.int .u64 ((G.buf.getD k 0 : Nat) : Int)) := fun k hk => by
    refine hG.buf k _ ?_
    rw [List.getD_eq_getElem?_getD, List.getElem?_eq_getElem (by rw [hO.len]; exact hk)]; rfl
  have g28 := g 28 (by decide)
  have g29 := g 29 (by decide)
  have g30 := g 30 (by decide)
  have g31 := g 31 (by decide)
  obtain ⟨x28, e28⟩ : ∃ x, x = G.buf.getD 28 0 := ⟨_, rfl⟩
  obtain ⟨x29, e29⟩ : ∃ x, x = G.buf.getD 29 0 := ⟨_, rfl⟩
  obtain ⟨x30, e30⟩ : ∃ x, x = G.buf.getD 30 0 := ⟨_, rfl⟩
  obtain ⟨x31, e31⟩ : ∃ x, x = G.buf.getD 31 0 := ⟨_, rfl⟩
  rw [← e28] at g28
  rw [← e29] at g29
  rw [← e30] at g30
  rw [← e31] at g31
  obtain ⟨w1, hw1⟩ : ∃ w1, w1 = ((((((w.setCell ⟨gb, 38, none⟩ (.int .u32 16)).setCell ⟨gb, 32, none⟩ (.int .u64 (x28 : Int))).setCell ⟨gb, 33, none⟩ (.int .u64 (x29 : Int))).setCell ⟨gb, 34, none⟩ (.int .u64 (x30 : Int))).setCell ⟨gb, 35, none⟩ (.int .u64 (x31 : Int))).setCell ⟨gb, 38, none⟩ (.int .u32 0)).drew.drew.drew.drew.drew := ⟨_, rfl⟩
  have A0 : At w gb (fun k => w.cell? ⟨gb, k, none⟩) := fun k => rfl
  have A1 := A0.set 38 (.int .u32 16) (by rw [hcc]; rfl)
  have A2 := A1.set 32 (.int .u64 (x28 : Int)) (by simp [h0])
  have A3 := A2.set 33 (.int .u64 (x29 : Int)) (by simp [h1])
  have A4 := A3.set 34 (.int .u64 (x30 : Int)) (by simp [h2])
  have A5 := A4.set 35 (.int .u64 (x31 : Int)) (by simp [h3])
  have A6 := A5.set 38 (.int .u32 0) (by simp)
  have A7 := A6.drew.drew.drew.drew.drew
  rw [← hw1] at A7
  clear A0 A1 A2 A3 A4 A5 A6
  have k1 : ∀ k, k < 32 ∨ k = 36 ∨ k = 37 → w1.cell? ⟨gb, k, none⟩ = w.cell? ⟨gb, k, none⟩ := fun k hk => by
    rw [A7 k]; simp only []; rw [if_neg (by omega), if_neg (by omega), if_neg (by omega), if_neg (by omega), if_neg (by omega), if_neg (by omega)]
  have k38 : w1.cell? ⟨gb, 38, none⟩ = some (.int .u32 0) := by rw [A7]; rfl
  have k32 : w1.cell? ⟨gb, 32, none⟩ = some (.int .u64 (x28 : Int)) := by rw [A7]; rfl
  have k33 : w1.cell? ⟨gb, 33, none⟩ = some (.int .u64 (x29 : Int)) := by rw [A7]; rfl
  have k34 : w1.cell? ⟨gb, 34, none⟩ = some (.int .u64 (x30 : Int)) := by rw [A7]; rfl
  have k35 : w1.cell? ⟨gb, 35, none⟩ = some (.int .u64 (x31 : Int)) := by rw [A7]; rfl
  have F0 : Fz w gb := hf
  have F1 := ((((((F0.set ⟨gb, 38, none⟩ (.int .u32 16)).set ⟨gb, 32, none⟩ (.int .u64 (x28 : Int))).set ⟨gb, 33, none⟩ (.int .u64 (x29 : Int))).set ⟨gb, 34, none⟩ (.int .u64 (x30 : Int))).set ⟨gb, 35, none⟩ (.int .u64 (x31 : Int))).set ⟨gb, 38, none⟩ (.int .u32 0)).drew.drew.drew.drew.drew
  rw [← hw1] at F1
  have kf : ∀ k, w1.frozen? ⟨gb, k, none⟩ = false := F1
  clear F0 F1
  have kb : ∀ k, k < 32 → (w1.cell? ⟨gb, k, none⟩).isSome = true := fun k hk => by rw [k1 k (.inl hk), g k hk]; rfl
  have hcall := call_block w1 gb 0 x28 x29 x30 x31 k32 k33 k34 k35 kb kf
  rw [show ((0 : Nat) : Int) = 0 from rfl] at hcall
  have hF := filled w1 gb (keyOf x28 x29 x30 x31) 0 kb
  have hT1 := (((((((Tr.refl [gb] w).setCell gb 38 (.int .u32 16) (by simp)).setCell gb 32 (.int .u64 (x28 : Int)) (by simp)).setCell gb 33 (.int .u64 (x29 : Int)) (by simp)).setCell gb 34 (.int .u64 (x30 : Int)) (by simp)).setCell gb 35 (.int .u64 (x31 : Int)) (by simp)).setCell gb 38 (.int .u32 0) (by simp)).drew.drew.drew.drew.drew
  rw [← hw1] at hT1
  generalize w1.setCells gb 0 (blkCells (keyOf x28 x29 x30 x31) 0) = w2 at *
  have hT2 := hT1.filled hF (by simp)
  have q38 := (hF.rest 38 (by decide)).trans k38
  obtain ⟨v36, q36⟩ : ∃ v, w2.cell? ⟨gb, 36, none⟩ = some v := ⟨_, ((hF.rest 36 (by decide)).trans (k1 36 (by decide))).trans hG.ci⟩
  obtain ⟨v37, q37⟩ : ∃ v, w2.cell? ⟨gb, 37, none⟩ = some v := ⟨_, ((hF.rest 37 (by decide)).trans (k1 37 (by decide))).trans hG.cn⟩
  have qf : ∀ k, w2.frozen? ⟨gb, k, none⟩ = false := fun k => (hF.fz _).trans (kf k)
  have fin : GenAt ((w2.setCell ⟨gb, 36, none⟩ (.int .u32 0)).setCell ⟨gb, 37, none⟩ (.int .u32 32)) gb (refillG G) ∧ Tr [gb] w ((w2.setCell ⟨gb, 36, none⟩ (.int .u32 0)).setCell ⟨gb, 37, none⟩ (.int .u32 32)) := by
    have B0 : At w2 gb (fun k => w2.cell? ⟨gb, k, none⟩) := fun k => rfl
    have B1 := B0.set 36 (.int .u32 0) (by rw [q36]; rfl)
    have B2 := B1.set 37 (.int .u32 32) (by simp [q37])
    refine ⟨?_, (hT2.setCell _ _ _ (by simp)).setCell _ _ _ (by simp)⟩
    unfold refillG
    rw [if_pos hc, ← e28, ← e29, ← e30, ← e31]
    refine ⟨fun k x hx => ?_, ?_, ?_, ?_, ?_, ?_, ?_, ?_, fun k => ?_⟩
    · have hk : k < 32 := by have := (List.getElem?_eq_some_iff.1 hx).1; simpa using this
      rw [B2 k]; simp only []; rw [if_neg (by omega), if_neg (by omega)]
      exact hF.buf k x hx
    · rw [B2]; exact (hF.rest 32 (by decide)).trans k32
    · rw [B2]; exact (hF.rest 33 (by decide)).trans k33
    · rw [B2]; exact (hF.rest 34 (by decide)).trans k34
    · rw [B2]; exact (hF.rest 35 (by decide)).trans k35
    · rw [B2]; rfl
    · rw [B2]; rfl
    · rw [B2]; exact q38
    · rw [World.frozen?_setCell, World.frozen?_setCell]; exact qf k
  have FIN : Hid _ := fin
  rw [hw1] at hcall
  clear g fin hF hT1 hT2 kb kf k1 k38 k32 k33 k34 k35 hw1 A7 e28 e29 e30 e31
  go_enter Yba.func57, Yba.ntmps57
  go_wp2
  go_region
  go_wp2
  go_region
  go_wp2
  go_region
  go_wp2
  go_region
  go_wp2
  go_region
  go_wp2
  go_end0
  exact ⟨rfl, FIN.out.1, FIN.out.2⟩

theorem refill_any (gb : Nat) (G : Gen) (w : World) (hG : GenAt w gb G) (hO : GOk G) :
    Calls Yba.prog 57 #[.pointer (some ⟨gb, 0, none⟩)] w fun e w' => e = .returned (.tuple #[]) ∧ GenAt w' gb (refillG G) ∧ Tr [gb] w w' := by
  by_cases hc : G.c = 12
  · exact refill_seed gb G w hG hO hc
  · exact refill_plain gb G w hG hO hc

theorem blockWord_lt {key : Array Nat} (h : Ok8 key) (n k : Nat) (hk : k < 32) : blockWord key n k < 18446744073709551616 := by
  have aux : ∀ c r, r < 16 → (Extern.Chacha8Block.lane key c).getD r 0 < 4294967296 := fun c r hr => by
    rw [lane_get h c r hr]
    have hd := (rounds_ok (start_ok h c)).2 r
    split
    · exact Nat.mod_lt _ (by decide)
    · exact hd
  unfold blockWord
  rw [laneWord_eq, laneWord_eq]
  have a1 := aux (n + 2 * k % 4) (2 * k / 4) (by omega)
  have a2 := aux (n + (2 * k + 1) % 4) ((2 * k + 1) / 4) (by omega)
  have em : Extern.Chacha8Block.m32 = 4294967296 := rfl
  rw [em]
  omega

theorem getD_lt {G : Gen} (h : GOk G) (k : Nat) : G.buf.getD k 0 < 18446744073709551616 := by
  rw [List.getD_eq_getElem?_getD]
  cases e : G.buf[k]? with
  | none => decide
  | some x => exact h.word k x e

theorem refillG_ok {G : Gen} (h : GOk G) : GOk (refillG G) := by
  unfold refillG
  split
  · have hk := keyOf_ok (getD_lt h 28) (getD_lt h 29) (getD_lt h 30) (getD_lt h 31)
    refine ⟨by simp, fun k x hx => ?_, getD_lt h 28, getD_lt h 29, getD_lt h 30, getD_lt h 31, by simp, by simp, by simp⟩
    have hk' : k < 32 := by have := (List.getElem?_eq_some_iff.1 hx).1; simpa using this
    simp [hk'] at hx
    rw [← hx]; exact blockWord_lt hk _ _ hk'
  · have hk := keyOf_ok h.l0 h.l1 h.l2 h.l3
    refine ⟨by simp, fun k x hx => ?_, h.l0, h.l1, h.l2, h.l3, by simp, by simp only []; split <;> simp, by have := h.hc; simp only []; omega⟩
    have hk' : k < 32 := by have := (List.getElem?_eq_some_iff.1 hx).1; simpa using this
    simp [hk'] at hx
    rw [← hx]; exact blockWord_lt hk _ _ hk'

/-- The next word, and the generator behind it. -/
def outG (G : Gen) : Nat := if G.i < G.n then G.buf.getD G.i 0 else (refillG G).buf.getD 0 0
def nextG (G : Gen) : Gen := if G.i < G.n then { G with i := G.i + 1 } else { refillG G with i := 1 }

theorem outG_lt {G : Gen} (h : GOk G) : outG G < 18446744073709551616 := by
  unfold outG
  split
  · exact getD_lt h _
  · exact getD_lt (refillG_ok h) _
theorem refill_i (G : Gen) : (refillG G).i = 0 := by unfold refillG; split <;> rfl
theorem nextG_ok {G : Gen} (h : GOk G) : GOk (nextG G) := by
  unfold nextG
  split
  · rename_i hlt
    exact ⟨h.len, h.word, h.l0, h.l1, h.l2, h.l3, hlt, h.hn, h.hc⟩
  · have k := refillG_ok h
    exact ⟨k.len, k.word, k.l0, k.l1, k.l2, k.l3, by have := k.hn; show 1 ≤ (refillG G).n; omega, k.hn, k.hc⟩

theorem setI {w : World} {gb : Nat} {G : Gen} (h : GenAt w gb G) (i : Nat) : GenAt (w.setCell ⟨gb, 36, none⟩ (.int .u32 (i : Int))) gb { G with i := i } ∨ 32 < G.buf.length := by
  by_cases hl : 32 < G.buf.length
  · exact .inr hl
  · left
    have o : ∀ k, k ≠ 36 → (w.setCell ⟨gb, 36, none⟩ (.int .u32 (i : Int))).cell? ⟨gb, k, none⟩ = w.cell? ⟨gb, k, none⟩ := fun k hk => World.cell?_setCell_other _ _ _ _ (fun e => hk (by simpa using e.symm))
    refine ⟨fun k x hx => ?_, (o _ (by decide)).trans h.c0, (o _ (by decide)).trans h.c1, (o _ (by decide)).trans h.c2, (o _ (by decide)).trans h.c3, World.cell?_setCell_same _ _ _ h.ci, (o _ (by decide)).trans h.cn, (o _ (by decide)).trans h.cc, fun k => by rw [World.frozen?_setCell]; exact h.fz k⟩
    have hk : k < G.buf.length := (List.getElem?_eq_some_iff.1 hx).1
    rw [o k (by omega)]; exact h.buf k x hx

theorem next_any (gb : Nat) (G : Gen) (w : World) (hG : GenAt w gb G) (hO : GOk G) (hlt : G.i < G.n) :
    Calls Yba.prog 56 #[.pointer (some ⟨gb, 0, none⟩)] w fun e w' => e = .returned (.tuple #[.int .u64 ((G.buf.getD G.i 0 : Nat) : Int), .bool true]) ∧ GenAt w' gb { G with i := G.i + 1 } ∧ Tr [gb] w w' := by
  have hn := hO.hn
  have hx : G.buf[G.i]? = some (G.buf.getD G.i 0) := by
    rw [List.getD_eq_getElem?_getD, List.getElem?_eq_getElem (by rw [hO.len]; omega)]; rfl
  refine (next_yes gb G _ w hG hO hlt hx).mono ?_
  rintro e w' ⟨rfl, rfl⟩
  refine ⟨rfl, ?_, (Tr.refl _ w).setCell _ _ _ (by simp)⟩
  rcases setI hG (G.i + 1) with h | h
  · exact h
  · have := hO.len; omega

end Go.Proofs.Ybulkvuk
