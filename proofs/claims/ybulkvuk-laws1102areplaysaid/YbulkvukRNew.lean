import Derived.Test.YbulkvukRSend
import Derived.Test.YbulkvukRPut
import Derived.Lib.EndianBits
namespace Go.Proofs.Ybulkvuk
open Go.RowKit
set_option linter.unusedVariables false

set_option maxHeartbeats 8000000 in
set_option maxRecDepth 100000 in
/-- internal/byteorder.LEUint64: the number that the first 8 bytes spell. -/
theorem leU64 (g o n c : Nat) (b0 b1 b2 b3 b4 b5 b6 b7 : UInt8) (w : World) (hn : 8 ≤ n)
    (c0 : w.cell? ⟨g, o, none⟩ = some (.int .u8 b0.toNat)) (c1 : w.cell? ⟨g, o + 1, none⟩ = some (.int .u8 b1.toNat)) (c2 : w.cell? ⟨g, o + 2, none⟩ = some (.int .u8 b2.toNat)) (c3 : w.cell? ⟨g, o + 3, none⟩ = some (.int .u8 b3.toNat)) (c4 : w.cell? ⟨g, o + 4, none⟩ = some (.int .u8 b4.toNat)) (c5 : w.cell? ⟨g, o + 5, none⟩ = some (.int .u8 b5.toNat)) (c6 : w.cell? ⟨g, o + 6, none⟩ = some (.int .u8 b6.toNat)) (c7 : w.cell? ⟨g, o + 7, none⟩ = some (.int .u8 b7.toNat)) :
    Calls Yba.prog 55 #[.slice (some ⟨g, o, none⟩) n c] w fun e w' => e = .returned (.int .u64 (Lib.leNat [b0, b1, b2, b3, b4, b5, b6, b7])) ∧ ∃ q, w' = w.drewN q := by
  have h0 : b0.toNat < 256 := b0.toNat_lt
  have h1 : b1.toNat < 256 := b1.toNat_lt
  have h2 : b2.toNat < 256 := b2.toNat_lt
  have h3 : b3.toNat < 256 := b3.toNat_lt
  have h4 : b4.toNat < 256 := b4.toNat_lt
  have h5 : b5.toNat < 256 := b5.toNat_lt
  have h6 : b6.toNat < 256 := b6.toNat_lt
  have h7 : b7.toNat < 256 := b7.toNat_lt
  have hv : ((Lib.leNat [b0, b1, b2, b3, b4, b5, b6, b7] : Nat) : Int) = (b0.toNat : Int) + (b1.toNat : Int) * 256 + (b2.toNat : Int) * 65536 + (b3.toNat : Int) * 16777216 + (b4.toNat : Int) * 4294967296 + (b5.toNat : Int) * 1099511627776 + (b6.toNat : Int) * 281474976710656 + (b7.toNat : Int) * 72057594037927936 := by
    simp only [Lib.leNat]
    push_cast
    omega
  have q0 : 0 < n := by omega
  have q1 : (1 : Int) < (n : Int) := by omega
  have q2 : (2 : Int) < (n : Int) := by omega
  have q3 : (3 : Int) < (n : Int) := by omega
  have q4 : (4 : Int) < (n : Int) := by omega
  have q5 : (5 : Int) < (n : Int) := by omega
  have q6 : (6 : Int) < (n : Int) := by omega
  have q7 : (7 : Int) < (n : Int) := by omega
  have HV : Hid _ := hv
  clear hv
  go_enter Yba.func55, Yba.ntmps55
  go_wp2
  go_quiet (fail)
  go_wp2
  go_ret
  refine ⟨?_, _, rfl⟩
  simp (disch := omega) only [u64_or8, u64_or16, u64_or24, u64_or32, u64_or40, u64_or48, u64_or56]
  rw [HV.out]
  rfl

/-- A generator at its start. -/
def initG (s0 s1 s2 s3 : Nat) : Gen := { buf := (List.range 32).map (blockWord (keyOf s0 s1 s2 s3) 0), s0 := s0, s1 := s1, s2 := s2, s3 := s3, i := 0, n := 32, c := 0 }
theorem initG_ok {s0 s1 s2 s3 : Nat} (h0 : s0 < 18446744073709551616) (h1 : s1 < 18446744073709551616) (h2 : s2 < 18446744073709551616) (h3 : s3 < 18446744073709551616) : GOk (initG s0 s1 s2 s3) := by
  refine ⟨by simp [initG], fun k x hx => ?_, h0, h1, h2, h3, by simp [initG], .inl rfl, .inl rfl⟩
  have hk' : k < 32 := by have := (List.getElem?_eq_some_iff.1 hx).1; simpa [initG] using this
  simp [initG, hk'] at hx
  rw [← hx]; exact blockWord_lt (keyOf_ok h0 h1 h2 h3) _ _ hk'

theorem At.alloc {w : World} {gb : Nat} {f : Nat → Option Value} (h : At w gb f) (o : Obj) (hl : gb < w.heap.size) : At (w.alloc o) gb f := fun k => by
  rw [World.cell?_alloc_past _ _ _ (by exact hl)]; exact h k
theorem Fz.alloc {w : World} {gb : Nat} (h : Fz w gb) (o : Obj) (hl : gb < w.heap.size) : Fz (w.alloc o) gb := fun k => by
  rw [World.frozen?_alloc_past _ _ _ (by exact hl)]; exact h k

set_option maxRecDepth 100000 in
/-- (*State).Init64. -/
theorem init64 (gb s0 s1 s2 s3 : Nat) (w : World) (hc : ∀ k, k < 39 → (w.cell? ⟨gb, k, none⟩).isSome = true) (hf : ∀ k, w.frozen? ⟨gb, k, none⟩ = false) :
    Calls Yba.prog 54 #[.pointer (some ⟨gb, 0, none⟩), .agg #[.int .u64 s0, .int .u64 s1, .int .u64 s2, .int .u64 s3]] w fun e w' => e = .returned (.tuple #[]) ∧ GenAt w' gb (initG s0 s1 s2 s3) ∧ Tr [gb] w w' := by
  obtain ⟨v32, c32⟩ := Option.isSome_iff_exists.1 (hc 32 (by decide))
  obtain ⟨v33, c33⟩ := Option.isSome_iff_exists.1 (hc 33 (by decide))
  obtain ⟨v34, c34⟩ := Option.isSome_iff_exists.1 (hc 34 (by decide))
  obtain ⟨v35, c35⟩ := Option.isSome_iff_exists.1 (hc 35 (by decide))
  have lg := World.block_lt_of_cell? w _ c32
  simp only at lg
  obtain ⟨w1, hw1⟩ : ∃ w1, w1 = (((((w.setCell ⟨gb, 32, none⟩ (.int .u64 (s0 : Int))).setCell ⟨gb, 33, none⟩ (.int .u64 (s1 : Int))).setCell ⟨gb, 34, none⟩ (.int .u64 (s2 : Int))).setCell ⟨gb, 35, none⟩ (.int .u64 (s3 : Int))).alloc (.cells #[.int .u64 (s0 : Int), .int .u64 (s1 : Int), .int .u64 (s2 : Int), .int .u64 (s3 : Int)] 120)).drew := ⟨_, rfl⟩
  have A0 : At w gb (fun k => w.cell? ⟨gb, k, none⟩) := fun k => rfl
  have A2 := A0.set 32 (.int .u64 (s0 : Int)) (by rw [c32]; rfl)
  have A3 := A2.set 33 (.int .u64 (s1 : Int)) (by simp [c33])
  have A4 := A3.set 34 (.int .u64 (s2 : Int)) (by simp [c34])
  have A5 := A4.set 35 (.int .u64 (s3 : Int)) (by simp [c35])
  have A7 := (A5.alloc (.cells #[.int .u64 (s0 : Int), .int .u64 (s1 : Int), .int .u64 (s2 : Int), .int .u64 (s3 : Int)] 120) (by simpa [World.setCell] using lg)).drew
  rw [← hw1] at A7
  clear A0 A2 A3 A4 A5
  have k1 : ∀ k, k < 32 ∨ 35 < k → w1.cell? ⟨gb, k, none⟩ = w.cell? ⟨gb, k, none⟩ := fun k hk => by
    rw [A7 k]; simp only []; rw [if_neg (by omega), if_neg (by omega), if_neg (by omega), if_neg (by omega)]
  have k32 : w1.cell? ⟨gb, 32, none⟩ = some (.int .u64 (s0 : Int)) := by rw [A7]; rfl
  have k33 : w1.cell? ⟨gb, 33, none⟩ = some (.int .u64 (s1 : Int)) := by rw [A7]; rfl
  have k34 : w1.cell? ⟨gb, 34, none⟩ = some (.int .u64 (s2 : Int)) := by rw [A7]; rfl
  have k35 : w1.cell? ⟨gb, 35, none⟩ = some (.int .u64 (s3 : Int)) := by rw [A7]; rfl
  have F0 : Fz w gb := hf
  have F1 := (((((F0.set ⟨gb, 32, none⟩ (.int .u64 (s0 : Int))).set ⟨gb, 33, none⟩ (.int .u64 (s1 : Int))).set ⟨gb, 34, none⟩ (.int .u64 (s2 : Int))).set ⟨gb, 35, none⟩ (.int .u64 (s3 : Int))).alloc (.cells #[.int .u64 (s0 : Int), .int .u64 (s1 : Int), .int .u64 (s2 : Int), .int .u64 (s3 : Int)] 120) (by simpa [World.setCell] using lg)).drew
  rw [← hw1] at F1
  have kf : ∀ k, w1.frozen? ⟨gb, k, none⟩ = false := F1
  clear F0 F1
  have kb : ∀ k, k < 32 → (w1.cell? ⟨gb, k, none⟩).isSome = true := fun k hk => by rw [k1 k (.inl hk)]; exact hc k (by omega)
  have hcall := call_block w1 gb 0 s0 s1 s2 s3 k32 k33 k34 k35 kb kf
  rw [show ((0 : Nat) : Int) = 0 from rfl] at hcall
  have hF := filled w1 gb (keyOf s0 s1 s2 s3) 0 kb
  have hT1 := (((((Tr.refl [gb] w).setCell gb 32 (.int .u64 (s0 : Int)) (by simp)).setCell gb 33 (.int .u64 (s1 : Int)) (by simp)).setCell gb 34 (.int .u64 (s2 : Int)) (by simp)).setCell gb 35 (.int .u64 (s3 : Int)) (by simp)).alloc (.cells #[.int .u64 (s0 : Int), .int .u64 (s1 : Int), .int .u64 (s2 : Int), .int .u64 (s3 : Int)] 120) |>.drew
  rw [← hw1] at hT1
  generalize w1.setCells gb 0 (blkCells (keyOf s0 s1 s2 s3) 0) = w2 at *
  have hT2 := hT1.filled hF (by simp)
  have q : ∀ k, k = 36 ∨ k = 37 ∨ k = 38 → ∃ v, w2.cell? ⟨gb, k, none⟩ = some v := fun k hk => by
    obtain ⟨v, hv⟩ := Option.isSome_iff_exists.1 (hc k (by omega))
    exact ⟨v, by rw [hF.rest k (by omega), k1 k (by omega)]; exact hv⟩
  obtain ⟨v36, q36⟩ := q 36 (by decide)
  obtain ⟨v37, q37⟩ := q 37 (by decide)
  obtain ⟨v38, q38⟩ := q 38 (by decide)
  have qf : ∀ k, w2.frozen? ⟨gb, k, none⟩ = false := fun k => (hF.fz _).trans (kf k)
  have fin : GenAt (((w2.setCell ⟨gb, 38, none⟩ (.int .u32 0)).setCell ⟨gb, 36, none⟩ (.int .u32 0)).setCell ⟨gb, 37, none⟩ (.int .u32 32)) gb (initG s0 s1 s2 s3) ∧ Tr [gb] w (((w2.setCell ⟨gb, 38, none⟩ (.int .u32 0)).setCell ⟨gb, 36, none⟩ (.int .u32 0)).setCell ⟨gb, 37, none⟩ (.int .u32 32)) := by
    have B0 : At w2 gb (fun k => w2.cell? ⟨gb, k, none⟩) := fun k => rfl
    have B1 := B0.set 38 (.int .u32 0) (by rw [q38]; rfl)
    have B2 := B1.set 36 (.int .u32 0) (by simp [q36])
    have B3 := B2.set 37 (.int .u32 32) (by simp [q37])
    refine ⟨⟨fun k x hx => ?_, ?_, ?_, ?_, ?_, ?_, ?_, ?_, fun k => ?_⟩, ((hT2.setCell _ _ _ (by simp)).setCell _ _ _ (by simp)).setCell _ _ _ (by simp)⟩
    · have hk : k < 32 := by have := (List.getElem?_eq_some_iff.1 hx).1; simpa [initG] using this
      rw [B3 k]; simp only []; rw [if_neg (by omega), if_neg (by omega), if_neg (by omega)]
      exact hF.buf k x hx
    · rw [B3]; exact (hF.rest 32 (by decide)).trans k32
    · rw [B3]; exact (hF.rest 33 (by decide)).trans k33
    · rw [B3]; exact (hF.rest 34 (by decide)).trans k34
    · rw [B3]; exact (hF.rest 35 (by decide)).trans k35
    · rw [B3]; rfl
    · rw [B3]; rfl
    · rw [B3]; rfl
    · rw [World.frozen?_setCell, World.frozen?_setCell, World.frozen?_setCell]; exact qf k
  have FIN : Hid _ := fin
  rw [hw1] at hcall
  clear fin hF hT1 hT2 kb kf k1 k32 k33 k34 k35 hw1 A7 q hc
  go_enter Yba.func54, Yba.ntmps54
  go_wp2
  go_region
  go_wp2
  go_end0
  exact ⟨rfl, FIN.out.1, FIN.out.2⟩
end Go.Proofs.Ybulkvuk
