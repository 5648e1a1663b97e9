import Derived.Test.YbulkvukRInt
namespace Go.Proofs.Ybulkvuk
open Go.RowKit
set_option linter.unusedVariables false

/-- 2^64 mod n, as IntN reckons it. -/
def lim (n : Nat) : Nat := (18446744073709551616 - n) % n
/-- How many words IntN throws away. -/
def tries (n : Nat) (G : Gen) : Nat := findN (fun k => decide (lim n ≤ outG (walkG k G))) 200 0
def intV (n : Nat) (G : Gen) : Nat := outG (walkG (tries n G) G) % n
def intG (n : Nat) (G : Gen) : Gen := walkG (tries n G + 1) G

theorem tries_spec {G : Gen} (h : GOk G) {n : Nat} (h1 : 1 ≤ n) (h8 : n ≤ 4096) : lim n ≤ outG (walkG (tries n G) G) ∧ ∀ j, j < tries n G → outG (walkG j G) < lim n := by
  have hl : lim n ≤ 4294967296 := by
    have : lim n < n := Nat.mod_lt _ (by omega)
    omega
  obtain ⟨k, hk, hb⟩ := comes h
  obtain ⟨a, b⟩ := findN_spec (fun k => decide (lim n ≤ outG (walkG k G))) 200 0 k (by omega) (by omega) (decide_eq_true (by omega))
  refine ⟨of_decide_eq_true a, fun j hj => Nat.lt_of_not_le (of_decide_eq_false (b j (by omega) hj))⟩

theorem intG_ok {G : Gen} (h : GOk G) (n : Nat) : GOk (intG n G) := walkG_ok _ h
theorem intV_lt {n : Nat} (G : Gen) (h1 : 1 ≤ n) : intV n G < n := Nat.mod_lt _ (by omega)

theorem GenAt.tr {w w' : World} {gb : Nat} {G : Gen} {X : List Nat} (h : GenAt w gb G) (ht : Tr X w w') (hx : gb ∉ X) : GenAt w' gb G := by
  have hl := World.block_lt_of_cell? w _ h.c0
  have hb := ht.block gb hl hx
  have cc : ∀ k, w'.cell? ⟨gb, k, none⟩ = w.cell? ⟨gb, k, none⟩ := fun k => by simp only [World.cell?, hb]
  exact ⟨fun k x hk => (cc k).trans (h.buf k x hk), (cc _).trans h.c0, (cc _).trans h.c1, (cc _).trans h.c2, (cc _).trans h.c3, (cc _).trans h.ci, (cc _).trans h.cn, (cc _).trans h.cc, fun k => by have := h.fz k; simp only [World.frozen?, hb] at this ⊢; exact this⟩

theorem Tr.cell {w w' : World} {X : List Nat} (ht : Tr X w w') {b o : Nat} {v : Value} (h : w.cell? ⟨b, o, none⟩ = some v) (hx : b ∉ X) : w'.cell? ⟨b, o, none⟩ = some v := by
  have hl := World.block_lt_of_cell? w _ h
  have hb := ht.block b hl hx
  rw [← h]; simp only [World.cell?, hb]

theorem neg_lim {n : Nat} (h1 : 1 ≤ n) (h8 : n ≤ 4096) : (IntKind.u64.wrap (-(n : Int))).tmod (n : Int) = ((lim n : Nat) : Int) := by
  have e : IntKind.u64.wrap (-(n : Int)) = ((18446744073709551616 - n : Nat) : Int) := by
    rw [IntKind.wrap_u64]; omega
  rw [e, lim]
  exact Int.ofNat_tmod _ _

set_option maxRecDepth 100000 in
/-- (*Forgery).IntN. -/
theorem intN (fb gb n : Nat) (h1 : 1 ≤ n) (h8 : n ≤ 4096) (G : Gen) (w : World) (hne : fb ≠ gb) (hc : w.cell? ⟨fb, 1, none⟩ = some (.pointer (some ⟨gb, 0, none⟩))) (hG : GenAt w gb G) (hO : GOk G) :
    Calls Yba.prog 27 #[.pointer (some ⟨fb, 0, none⟩), .int .i64 n] w fun e w' => e = .returned (.int .i64 (intV n G : Nat)) ∧ GenAt w' gb (intG n G) ∧ Tr [gb] w w' := by
  obtain ⟨t1, t2⟩ := tries_spec hO h1 h8
  have TS : Hid (lim n ≤ outG (walkG (tries n G) G) ∧ ∀ j, j < tries n G → outG (walkG j G) < lim n) := ⟨t1, t2⟩
  clear t1 t2
  have hnl := neg_lim h1 h8
  go_enter Yba.func27, Yba.ntmps27
  go_wp2
  clear hnl
  have HO : Hid (GOk G) := hO
  clear hO
  go_loopg [7] (tries n G) (fun k _ wr => ∃ j, j + k = tries n G ∧ GenAt wr gb (walkG j G) ∧ Tr [gb] w wr)
  case atStart => exact ⟨0, by omega, hG, Tr.refl _ _⟩
  case round =>
    obtain ⟨j, hj, hG', hT⟩ := hrel
    have hc' := hT.cell hc (by simpa using hne)
    have AJ : Hid (j + gk = tries n G) := hj
    clear hj
    go_wp2_with fail
    refine (uint64 gb (walkG j G) wr hG' (walkG_ok j HO.out)).mono ?_
    rintro e w' ⟨rfl, hG2, hT2⟩
    have hlt := outG_lt (walkG_ok j HO.out)
    by_cases hk : gk = 0
    · have ej : j = tries n G := by have := AJ.out; omega
      have b1 : ((lim n : Nat) : Int) ≤ ((outG (walkG j G) : Nat) : Int) := by rw [ej]; have := TS.out.1; omega
      have hv : ((outG (walkG j G) : Nat) : Int).tmod (n : Int) = ((outG (walkG j G) % n : Nat) : Int) := Int.ofNat_tmod _ _
      have hmm : outG (walkG j G) % n < n := Nat.mod_lt _ (by omega)
      generalize hx : outG (walkG j G) = x at *
      generalize hy : x % n = y at *
      have HY : Hid (intV n G = y) := by show intV n G = y; rw [intV, ← ej, hx, hy]
      clear hx hy
      go_wp2
      go_ret
      refine ⟨?_, ?_, hT.trans hT2⟩
      · rw [HY.out]; rfl
      · rw [intG, ← ej, walkG_add]; exact hG2
    · have b1 : ¬ (((lim n : Nat) : Int) ≤ ((outG (walkG j G) : Nat) : Int)) := by have := TS.out.2 j (by have := AJ.out; omega); omega
      generalize outG (walkG j G) = x at *
      go_wp2
      go_roundg (gk - 1)
      case measure => omega
      case rel => exact ⟨j + 1, by have := AJ.out; omega, by rw [walkG_add]; exact hG2, hT.trans hT2⟩
end Go.Proofs.Ybulkvuk
