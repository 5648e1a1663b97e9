import Derived.Test.YbulkvukRNewF
namespace Go.Proofs.Ybulkvuk
open Go.RowKit
set_option linter.unusedVariables false

/-- A Forgery's key. -/
def keyL (seed draw : Nat) : List UInt8 := Lib.leBytes 8 seed ++ (Lib.leBytes 8 draw ++ List.replicate 16 0)
theorem leBytes_len : ∀ (k v : Nat), (Lib.leBytes k v).length = k
  | 0, _ => rfl
  | k + 1, v => by rw [Lib.leBytes, List.length_cons, leBytes_len k]
theorem keyL_len (seed draw : Nat) : (keyL seed draw).length = 32 := by simp [keyL, leBytes_len]

/-- PutUint64 at a key's block. -/
theorem put24 (kb o v : Nat) (hv : v < 18446744073709551616) (ho : o + 8 ≤ 32) (w : World) (hc : ∀ k, k < 32 → (w.cell? ⟨kb, k, none⟩).isSome = true) (hf : ∀ k, w.frozen? ⟨kb, k, none⟩ = false) (n : Nat) (hn : 8 ≤ n) :
    Calls Yba.prog 24 #[.agg #[], .slice (some ⟨kb, o, none⟩) n n, .int .u64 v] w fun e w' => e = .returned (.tuple #[]) ∧ w' = (w.alloc (.cells #[] 93)).setCells kb o (Lib.byteCells (Lib.leBytes 8 v)) := by
  obtain ⟨x0, c0⟩ := Option.isSome_iff_exists.1 (hc o (by omega))
  obtain ⟨x1, c1⟩ := Option.isSome_iff_exists.1 (hc (o + 1) (by omega))
  obtain ⟨x2, c2⟩ := Option.isSome_iff_exists.1 (hc (o + 2) (by omega))
  obtain ⟨x3, c3⟩ := Option.isSome_iff_exists.1 (hc (o + 3) (by omega))
  obtain ⟨x4, c4⟩ := Option.isSome_iff_exists.1 (hc (o + 4) (by omega))
  obtain ⟨x5, c5⟩ := Option.isSome_iff_exists.1 (hc (o + 5) (by omega))
  obtain ⟨x6, c6⟩ := Option.isSome_iff_exists.1 (hc (o + 6) (by omega))
  obtain ⟨x7, c7⟩ := Option.isSome_iff_exists.1 (hc (o + 7) (by omega))
  exact Any.binary_LE_PutUint64 putLays kb o n n v hv x0 x1 x2 x3 x4 x5 x6 x7 w hn c0 c1 c2 c3 c4 c5 c6 c7 (hf _) (hf _) (hf _) (hf _) (hf _) (hf _) (hf _) (hf _)

theorem range_setCells {w : World} {b : Nat} {cs vs : List Value} (o : Nat) (h : w.rangeAt b 0 cs) (hl : o + vs.length ≤ cs.length) : (w.setCells b o vs).rangeAt b 0 (cs.take o ++ (vs ++ cs.drop (o + vs.length))) := by
  intro j v hj
  rw [Nat.zero_add]
  have hto : (cs.take o).length = o := by rw [List.length_take]; omega
  by_cases h1 : j < o
  · rw [World.cell?_setCells_out b _ _ _ _ (fun _ _ => .inl h1)]
    rw [List.getElem?_append_left (by omega), List.getElem?_take_of_lt h1] at hj
    have := h j v hj
    rwa [Nat.zero_add] at this
  · rw [List.getElem?_append_right (by omega), hto] at hj
    by_cases h2 : j < o + vs.length
    · rw [List.getElem?_append_left (by omega)] at hj
      have := World.cell?_setCells_in b vs o w (fun i hi => by
        have hx := h (o + i) _ (List.getElem?_eq_getElem (by omega))
        rw [Nat.zero_add] at hx
        rw [hx]; rfl) (j - o) (by omega)
      rw [show o + (j - o) = j by omega] at this
      rw [this, ← hj, List.getElem?_eq_getElem (by omega)]
    · rw [World.cell?_setCells_out b _ _ _ _ (fun _ _ => .inr (by show o + vs.length ≤ j; omega))]
      rw [List.getElem?_append_right (by omega), List.getElem?_drop] at hj
      have := h _ v hj
      rwa [show 0 + (o + vs.length + (j - o - vs.length)) = j by omega] at this

/-- A key's block: its cells, unfrozen. -/
structure KB (w : World) (kb : Nat) (cs : List Value) : Prop where
  range : w.rangeAt kb 0 cs
  len : cs.length = 32
  fz : ∀ k, w.frozen? ⟨kb, k, none⟩ = false
  lt : kb < w.heap.size

theorem KB.some {w : World} {kb : Nat} {cs : List Value} (h : KB w kb cs) (k : Nat) (hk : k < 32) : (w.cell? ⟨kb, k, none⟩).isSome = true := by
  have := h.range k _ (List.getElem?_eq_getElem (by rw [h.len]; exact hk))
  rw [Nat.zero_add] at this
  rw [this]; rfl
theorem KB.drew {w : World} {kb : Nat} {cs : List Value} (h : KB w kb cs) : KB w.drew kb cs := ⟨h.range, h.len, h.fz, h.lt⟩

/-- PutUint64 at a key's block, told by its cells. -/
theorem putKB (kb o v n : Nat) (cs : List Value) (hv : v < 18446744073709551616) (ho : o + 8 ≤ 32) (hn : 8 ≤ n) (w : World) (h : KB w kb cs) :
    Calls Yba.prog 24 #[.agg #[], .slice (some ⟨kb, o, none⟩) n n, .int .u64 v] w fun e w' => e = .returned (.tuple #[]) ∧ KB w' kb (cs.take o ++ ((Lib.leBytes 8 v).map byV ++ cs.drop (o + 8))) ∧ Tr [kb] w w' := by
  refine (put24 kb o v hv ho w h.some h.fz n hn).mono ?_
  rintro e w' ⟨rfl, rfl⟩
  have hb : Lib.byteCells (Lib.leBytes 8 v) = (Lib.leBytes 8 v).map byV := rfl
  rw [hb]
  have hl : ((Lib.leBytes 8 v).map byV).length = 8 := by rw [List.length_map, leBytes_len]
  have ha : (w.alloc (.cells #[] 93)).rangeAt kb 0 cs := fun j x hj => by
    rw [World.cell?_alloc_past _ _ _ (by exact h.lt)]; exact h.range j x hj
  have hc := h.len
  have hr := range_setCells o ha (vs := (Lib.leBytes 8 v).map byV) (by rw [hl]; omega)
  rw [hl] at hr
  obtain ⟨q1, q2, q3, q4, q5⟩ := setCells_heap kb ((Lib.leBytes 8 v).map byV) o (w.alloc (.cells #[] 93))
  refine ⟨rfl, ⟨hr, by simp [leBytes_len, hc]; omega, fun k => ?_, by rw [q2]; have := h.lt; simp; omega⟩, ⟨q3, q4, q5, by rw [q2]; simp, fun k hk hx => ?_⟩⟩
  · rw [World.frozen?_setCells, World.frozen?_alloc_past _ _ _ (by exact h.lt)]; exact h.fz k
  · rw [q1 k (by simpa using hx)]; exact heap_alloc_old _ _ hk

theorem size91' {cs : List Value} (h : cs.length = 32) : (Yba.prog.info? 91).map (·.size) = some cs.length := by rw [h]; exact size91

/-- The generator that a Forgery starts with. -/
def firstG (seed draw : Nat) : Gen := initG (le8 (keyL seed draw) 0) (le8 (keyL seed draw) 8) (le8 (keyL seed draw) 16) (le8 (keyL seed draw) 24)
theorem firstG_ok (seed draw : Nat) : GOk (firstG seed draw) := initG_ok (le8_lt _ _) (le8_lt _ _) (le8_lt _ _) (le8_lt _ _)

theorem key_cells (seed draw : Nat) : ((List.take 0 (List.replicate 32 (Value.int .u8 0)) ++ ((Lib.leBytes 8 seed).map byV ++ List.drop (0 + 8) (List.replicate 32 (Value.int .u8 0)))).take 8 ++ ((Lib.leBytes 8 draw).map byV ++ (List.take 0 (List.replicate 32 (Value.int .u8 0)) ++ ((Lib.leBytes 8 seed).map byV ++ List.drop (0 + 8) (List.replicate 32 (Value.int .u8 0)))).drop (8 + 8))) = (keyL seed draw).map byV := by
  have l1 : ((Lib.leBytes 8 seed).map byV).length = 8 := by rw [List.length_map, leBytes_len]
  have hz : Value.int .u8 0 = byV 0 := rfl
  have hd : ∀ (A Z : List Value), A.length = 8 → (A ++ Z).take 8 = A ∧ (A ++ Z).drop (8 + 8) = Z.drop 8 := fun A Z hA => by
    constructor
    · rw [← hA, List.take_left]
    · rw [← List.drop_drop, ← hA, List.drop_left, hA]
  rw [List.take_zero, List.nil_append, (hd _ _ l1).1, (hd _ _ l1).2, keyL, List.map_append, List.map_append, List.map_replicate, hz]
  rfl

set_option maxRecDepth 100000 in
set_option maxHeartbeats 1000000 in
/-- NewForgery. -/
theorem newForgery (scb seed draw : Nat) (hs : seed < 18446744073709551616) (hd : draw < 18446744073709551616) (w : World) (m : Value) :
    Calls Yba.prog 9 #[.pointer (some ⟨scb, 0, none⟩), .int .u64 seed, .int .u64 draw] w fun e w' => ∃ fb gb : Nat, e = .returned (.pointer (some ⟨fb, 0, none⟩)) ∧ FSt w' w.heap.size scb fb gb (firstG seed draw) m [] (.slice none 0 0) ∧ w'.cell? ⟨fb, 2, none⟩ = some (.slice none 0 0) ∧ (∀ k, w'.frozen? ⟨fb, k, none⟩ = false) ∧ Below w.heap.size w w' := by
  have hz : KB (w.alloc (.cells (List.replicate 32 (Value.int .u8 0)).toArray 91)) w.heap.size (List.replicate 32 (Value.int .u8 0)) :=
    ⟨fun j v hj => by rw [World.cell?_alloc_at _ _ _ _ rfl, Nat.zero_add]; simpa using hj, by simp, fun k => frozen_of_row _ _ k _ _ (heap_alloc_new w _), by simp⟩
  have hbz : Below w.heap.size w (w.alloc (.cells (List.replicate 32 (Value.int .u8 0)).toArray 91)) := (Below.refl _ w).alloc (Nat.le_refl _) _
  have ez : (List.replicate 32 (Value.int .u8 0)).toArray = #[.int .u8 0, .int .u8 0, .int .u8 0, .int .u8 0, .int .u8 0, .int .u8 0, .int .u8 0, .int .u8 0, .int .u8 0, .int .u8 0, .int .u8 0, .int .u8 0, .int .u8 0, .int .u8 0, .int .u8 0, .int .u8 0, .int .u8 0, .int .u8 0, .int .u8 0, .int .u8 0, .int .u8 0, .int .u8 0, .int .u8 0, .int .u8 0, .int .u8 0, .int .u8 0, .int .u8 0, .int .u8 0, .int .u8 0, .int .u8 0, .int .u8 0, .int .u8 0] := rfl
  rw [ez] at hz hbz
  have HZ : Hid _ := hz.drew
  have HBZ : Hid _ := hbz.drew
  clear hz hbz ez
  go_enter Yba.func9, Yba.ntmps9
  go_wp2
  go_region_with (go_at_call 24; refine (putKB w.heap.size 0 seed 32 _ hs (by decide) (by decide) _ HZ.out).mono ?_; rintro e w1 ⟨rfl, hk1, ht1⟩)
  have hb1 : Below w.heap.size w w1 := HBZ.out.trans (ht1.below (B := w.heap.size) (by simp) (by simp))
  have HK1 : Hid _ := hk1.drew
  clear ht1 hk1 HZ HBZ
  go_wp2
  go_region_with (go_at_call 24; refine (putKB w.heap.size 8 draw 24 _ hd (by decide) (by decide) _ HK1.out).mono ?_; rintro e w2 ⟨rfl, hk2, ht2⟩)
  rw [key_cells] at hk2
  have hb2 : Below w.heap.size w w2 := hb1.drew.trans (ht2.below (B := w.heap.size) (by have := hb1.size; simpa using this) (by simp))
  have s2 := hb2.size
  have hn := newCha (keyL seed draw) (keyL_len _ _) w2
  have HG : Hid (initG (le8 (keyL seed draw) 0) (le8 (keyL seed draw) 8) (le8 (keyL seed draw) 16) (le8 (keyL seed draw) 24) = firstG seed draw) := rfl
  have hr := hk2.range
  have hi := size91' hk2.len
  generalize hcs : (keyL seed draw).map byV = cs at *
  clear hcs ht2 hk2 HK1
  go_wp2_with (refine wpList_load_mid rfl 91 _ rfl w.heap.size 0 rfl cs _ hr Yba.underlying91 rfl hi ?_)
  refine hn.mono ?_
  rintro e w3 ⟨rfl, hG3, hb3⟩
  rw [HG.out] at hG3
  have s3 := hb3.size
  have lg := World.block_lt_of_cell? w3 _ hG3.c0
  simp only at lg
  clear hn hr hi
  have fin : ∀ fz : World, fz = w3.alloc (.cells #[.pointer (some ⟨scb, 0, none⟩), .pointer (some ⟨w2.heap.size + 1, 0, none⟩), .slice none 0 0, .slice none 0 0] 99) → FSt fz w.heap.size scb w3.heap.size (w2.heap.size + 1) (firstG seed draw) m [] (.slice none 0 0) ∧ fz.cell? ⟨w3.heap.size, 2, none⟩ = some (.slice none 0 0) ∧ (∀ k, fz.frozen? ⟨w3.heap.size, k, none⟩ = false) ∧ Below w.heap.size w fz := by
    rintro fz rfl
    have hz : ∀ k, (w3.alloc (.cells #[.pointer (some ⟨scb, 0, none⟩), .pointer (some ⟨w2.heap.size + 1, 0, none⟩), .slice none 0 0, .slice none 0 0] 99)).frozen? ⟨w3.heap.size, k, none⟩ = false := fun k => frozen_of_row _ _ k _ _ (heap_alloc_new w3 _)
    refine ⟨⟨by omega, by omega, by omega, ?_, ?_, ?_, hz 3, ?_, firstG_ok _ _, World.ownsRow_nil _ _ _ _, by simp [Value.ownBlock], by simp [Value.ownBlock], fun a ha => by cases ha⟩, ?_, hz, ?_⟩
    · rw [World.cell?_alloc_at _ _ _ _ rfl]; rfl
    · rw [World.cell?_alloc_at _ _ _ _ rfl]; rfl
    · rw [World.cell?_alloc_at _ _ _ _ rfl]; rfl
    · exact hG3.tr ((Tr.refl [] w3).alloc _) (by simp)
    · rw [World.cell?_alloc_at _ _ _ _ rfl]; rfl
    · exact (hb2.trans (hb3.mono s2)).alloc (by omega) _
  have FIN : Hid _ := fin _ rfl
  clear fin
  go_wp2
  go_ret
  exact ⟨w3.heap.size, w2.heap.size + 1, rfl, FIN.out.1, FIN.out.2.1, FIN.out.2.2.1, FIN.out.2.2.2⟩
end Go.Proofs.Ybulkvuk
