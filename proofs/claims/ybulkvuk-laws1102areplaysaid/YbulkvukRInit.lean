import Derived.Test.YbulkvukRNew
namespace Go.Proofs.Ybulkvuk
open Go.RowKit
set_option linter.unusedVariables false

def byV (b : UInt8) : Value := .int .u8 (b.toNat : Int)
/-- The word that eight bytes from place o on spell. -/
def le8 (K : List UInt8) (o : Nat) : Nat := Lib.leNat [K.getD o 0, K.getD (o + 1) 0, K.getD (o + 2) 0, K.getD (o + 3) 0, K.getD (o + 4) 0, K.getD (o + 5) 0, K.getD (o + 6) 0, K.getD (o + 7) 0]

theorem le_lt (b0 b1 b2 b3 b4 b5 b6 b7 : UInt8) : Lib.leNat [b0, b1, b2, b3, b4, b5, b6, b7] < 18446744073709551616 := by
  have h0 : b0.toNat < 256 := b0.toNat_lt
  have h1 : b1.toNat < 256 := b1.toNat_lt
  have h2 : b2.toNat < 256 := b2.toNat_lt
  have h3 : b3.toNat < 256 := b3.toNat_lt
  have h4 : b4.toNat < 256 := b4.toNat_lt
  have h5 : b5.toNat < 256 := b5.toNat_lt
  have h6 : b6.toNat < 256 := b6.toNat_lt
  have h7 : b7.toNat < 256 := b7.toNat_lt
  have hv : Lib.leNat [b0, b1, b2, b3, b4, b5, b6, b7] = b0.toNat + 256 * (b1.toNat + 256 * (b2.toNat + 256 * (b3.toNat + 256 * (b4.toNat + 256 * (b5.toNat + 256 * (b6.toNat + 256 * b7.toNat)))))) := by
    simp only [Lib.leNat]
    omega
  rw [hv]
  omega
theorem le8_lt (K : List UInt8) (o : Nat) : le8 K o < 18446744073709551616 := le_lt _ _ _ _ _ _ _ _

def KeyAt (W : World) (N : Nat) (K : List UInt8) : Prop := ∀ k, k < 32 → W.cell? ⟨N, k, none⟩ = some (byV (K.getD k 0))

theorem leAt (N o n : Nat) (K : List UInt8) (W : World) (ho : o + 8 ≤ 32) (hn : 8 ≤ n) (h : KeyAt W N K) :
    Calls Yba.prog 55 #[.slice (some ⟨N, o, none⟩) n n] W fun e w' => e = .returned (.int .u64 (le8 K o : Nat)) ∧ ∃ q, w' = W.drewN q :=
  leU64 N o n n _ _ _ _ _ _ _ _ W hn (h o (by omega)) (h (o + 1) (by omega)) (h (o + 2) (by omega)) (h (o + 3) (by omega)) (h (o + 4) (by omega)) (h (o + 5) (by omega)) (h (o + 6) (by omega)) (h (o + 7) (by omega))

theorem key_alloc (w : World) (K : List UInt8) (hK : K.length = 32) (t : TypeId) : KeyAt (w.alloc (.cells (K.map byV).toArray t)) w.heap.size K := by
  intro k hk
  rw [World.cell?_alloc_at _ _ _ _ rfl, List.getD_eq_getElem?_getD]
  have : k < K.length := by omega
  simp [this]

/-- Behind some draws. -/
def Dr (w W : World) : Prop := ∃ q, W = w.drewN q

set_option maxRecDepth 100000 in
set_option maxHeartbeats 2000000 in
/-- (*State).Init. -/
theorem init41 (gb : Nat) (K : List UInt8) (hK : K.length = 32) (w : World) (hc : ∀ k, k < 39 → (w.cell? ⟨gb, k, none⟩).isSome = true) (hf : ∀ k, w.frozen? ⟨gb, k, none⟩ = false) (hl : gb < w.heap.size) :
    Calls Yba.prog 41 #[.pointer (some ⟨gb, 0, none⟩), .agg (K.map byV).toArray] w fun e w' => e = .returned (.tuple #[]) ∧ GenAt w' gb (initG (le8 K 0) (le8 K 8) (le8 K 16) (le8 K 24)) ∧ Tr [gb] w w' := by
  have HK := key_alloc w K hK 91
  have HC : ∀ k, k < 39 → ((w.alloc (.cells (K.map byV).toArray 91)).cell? ⟨gb, k, none⟩).isSome = true := fun k hk => by
    rw [World.cell?_alloc_past _ _ _ (by exact hl)]; exact hc k hk
  have HF : ∀ k, (w.alloc (.cells (K.map byV).toArray 91)).frozen? ⟨gb, k, none⟩ = false := fun k => by
    rw [World.frozen?_alloc_past _ _ _ (by exact hl)]; exact hf k
  have HT : Hid (Tr [gb] w (w.alloc (.cells (K.map byV).toArray 91))) := (Tr.refl _ w).alloc _
  generalize hkc : (K.map byV).toArray = kc at *
  generalize hx0 : le8 K 0 = x0 at *
  generalize hx8 : le8 K 8 = x8 at *
  generalize hx16 : le8 K 16 = x16 at *
  generalize hx24 : le8 K 24 = x24 at *
  have D0 : Dr (w.alloc (.cells kc 91)) (w.alloc (.cells kc 91)).drew := ⟨1, rfl⟩
  have L0 : Hid (∀ W, Dr (w.alloc (.cells kc 91)) W → Calls Yba.prog 55 #[.slice (some ⟨w.heap.size, 0, none⟩) 32 32] W fun e w' => e = .returned (.int .u64 x0) ∧ Dr (w.alloc (.cells kc 91)) w') := by
    rintro W ⟨q, rfl⟩
    rw [← hx0]
    refine (leAt _ 0 32 K ((w.alloc (.cells kc 91)).drewN q) (by decide) (by decide) HK).mono ?_
    rintro e w' ⟨h, p, rfl⟩
    exact ⟨h, q + p, by simp⟩
  have L8 : Hid (∀ W, Dr (w.alloc (.cells kc 91)) W → Calls Yba.prog 55 #[.slice (some ⟨w.heap.size, 8, none⟩) 24 24] W fun e w' => e = .returned (.int .u64 x8) ∧ Dr (w.alloc (.cells kc 91)) w') := by
    rintro W ⟨q, rfl⟩
    rw [← hx8]
    refine (leAt _ 8 24 K ((w.alloc (.cells kc 91)).drewN q) (by decide) (by decide) HK).mono ?_
    rintro e w' ⟨h, p, rfl⟩
    exact ⟨h, q + p, by simp⟩
  have L16 : Hid (∀ W, Dr (w.alloc (.cells kc 91)) W → Calls Yba.prog 55 #[.slice (some ⟨w.heap.size, 16, none⟩) 16 16] W fun e w' => e = .returned (.int .u64 x16) ∧ Dr (w.alloc (.cells kc 91)) w') := by
    rintro W ⟨q, rfl⟩
    rw [← hx16]
    refine (leAt _ 16 16 K ((w.alloc (.cells kc 91)).drewN q) (by decide) (by decide) HK).mono ?_
    rintro e w' ⟨h, p, rfl⟩
    exact ⟨h, q + p, by simp⟩
  have L24 : Hid (∀ W, Dr (w.alloc (.cells kc 91)) W → Calls Yba.prog 55 #[.slice (some ⟨w.heap.size, 24, none⟩) 8 8] W fun e w' => e = .returned (.int .u64 x24) ∧ Dr (w.alloc (.cells kc 91)) w') := by
    rintro W ⟨q, rfl⟩
    rw [← hx24]
    refine (leAt _ 24 8 K ((w.alloc (.cells kc 91)).drewN q) (by decide) (by decide) HK).mono ?_
    rintro e w' ⟨h, p, rfl⟩
    exact ⟨h, q + p, by simp⟩
  have M : Hid (∀ W, Dr (w.alloc (.cells kc 91)) W → Calls Yba.prog 54 #[.pointer (some ⟨gb, 0, none⟩), .agg #[.int .u64 x0, .int .u64 x8, .int .u64 x16, .int .u64 x24]] W fun e w' => e = .returned (.tuple #[]) ∧ GenAt w' gb (initG x0 x8 x16 x24) ∧ Tr [gb] w w') := by
    rintro W ⟨q, rfl⟩
    refine (init64 gb x0 x8 x16 x24 ((w.alloc (.cells kc 91)).drewN q) HC HF).mono ?_
    rintro e w' ⟨h, h2, h3⟩
    exact ⟨h, h2, (HT.out.drewN q).trans h3⟩
  clear HC HF HK hkc hx0 hx8 hx16 hx24 hc hf
  go_enter Yba.func41, Yba.ntmps41
  go_wp2
  go_region_with (first
    | (go_at_call 54; refine (M.out _ (by assumption)).mono ?_; rintro e w9 ⟨rfl, hGen, hTr⟩)
    | (go_at_call_of 55 (Value.slice (some ⟨w.heap.size, 0, none⟩) 32 32); refine (L0.out _ (by assumption)).mono ?_; rintro e wa ⟨rfl, dra⟩)
    | (go_at_call_of 55 (Value.slice (some ⟨w.heap.size, 8, none⟩) 24 24); refine (L8.out _ (by assumption)).mono ?_; rintro e wb ⟨rfl, drb⟩)
    | (go_at_call_of 55 (Value.slice (some ⟨w.heap.size, 16, none⟩) 16 16); refine (L16.out _ (by assumption)).mono ?_; rintro e wc ⟨rfl, drc⟩)
    | (go_at_call_of 55 (Value.slice (some ⟨w.heap.size, 24, none⟩) 8 8); refine (L24.out _ (by assumption)).mono ?_; rintro e wd ⟨rfl, drd⟩))
  go_wp2
  go_end0
  exact ⟨rfl, hGen, hTr⟩
end Go.Proofs.Ybulkvuk
