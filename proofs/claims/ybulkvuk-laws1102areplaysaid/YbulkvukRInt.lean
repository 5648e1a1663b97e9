import Derived.Test.YbulkvukRGen
namespace Go.Proofs.Ybulkvuk
open Go.RowKit
set_option linter.unusedVariables false

set_option maxRecDepth 100000 in
/-- (*ChaCha8).Uint64. -/
theorem uint64 (gb : Nat) (G : Gen) (w : World) (hG : GenAt w gb G) (hO : GOk G) :
    Calls Yba.prog 44 #[.pointer (some ⟨gb, 0, none⟩)] w fun e w' => e = .returned (.int .u64 ((outG G : Nat) : Int)) ∧ GenAt w' gb (nextG G) ∧ Tr [gb] w w' := by
  go_enter Yba.func44, Yba.ntmps44
  go_wp2
  go_loopg [3] 1 (fun k _ wr => (k = 1 ∧ wr = w) ∨ (k = 0 ∧ ¬ G.i < G.n ∧ GenAt wr gb (refillG G) ∧ Tr [gb] w wr))
  case atStart => exact .inl ⟨rfl, rfl⟩
  case round =>
    rcases hrel with ⟨rfl, rfl⟩ | ⟨rfl, hlt, hR, hT⟩
    · by_cases hlt : G.i < G.n
      · go_wp2_with fail
        refine (next_any gb G wr hG hO hlt).mono ?_
        rintro e w' ⟨rfl, hG', hT⟩
        go_wp2
        go_ret
        refine ⟨?_, ?_, hT⟩
        · rw [outG, if_pos hlt, List.getD_eq_getElem?_getD]; rfl
        · rw [nextG, if_pos hlt]; exact hG'
      · go_wp2_with fail
        refine (next_no gb G wr hG (by have := hO.hi; omega)).mono ?_
        rintro e w' ⟨rfl, rfl⟩
        go_wp2_with fail
        refine (refill_any gb G w' hG hO).mono ?_
        rintro e w'' ⟨rfl, hG', hT⟩
        go_wp2
        go_roundg 0
        case measure => decide
        case rel => exact .inr ⟨rfl, hlt, hG', hT⟩
    · have hi := refill_i G
      have hO' := refillG_ok hO
      have hn := hO'.hn
      go_wp2_with fail
      refine (next_any gb (refillG G) wr hR hO' (by omega)).mono ?_
      rintro e w' ⟨rfl, hG', hT'⟩
      go_wp2
      go_ret
      refine ⟨?_, ?_, hT.trans hT'⟩
      · rw [outG, if_neg hlt, List.getD_eq_getElem?_getD]; rfl
      · rw [nextG, if_neg hlt]; rw [hi] at hG'; exact hG'

def walkG : Nat → Gen → Gen
  | 0, G => G
  | k + 1, G => walkG k (nextG G)

theorem walkG_add : ∀ (a b : Nat) (G : Gen), walkG (a + b) G = walkG b (walkG a G)
  | 0, b, G => by rw [Nat.zero_add]; rfl
  | a + 1, b, G => by rw [show a + 1 + b = (a + b) + 1 by omega, walkG, walkG_add a b, walkG]
theorem walkG_ok : ∀ (k : Nat) {G : Gen}, GOk G → GOk (walkG k G)
  | 0, _, h => h
  | k + 1, _, h => walkG_ok k (nextG_ok h)

theorem walkG_in : ∀ (k : Nat) (G : Gen), G.i + k ≤ G.n → walkG k G = { G with i := G.i + k }
  | 0, G, _ => rfl
  | k + 1, G, h => by
    rw [walkG, nextG, if_pos (by omega), walkG_in k _ (by show G.i + 1 + k ≤ G.n; omega)]
    simp only [Gen.mk.injEq, true_and, and_true]
    omega

theorem refill_i_any (G : Gen) (i : Nat) : refillG { G with i := i } = refillG G := rfl

/-- Behind the buffer's end: the refilled one, one word drawn. -/
theorem walkG_over {G : Gen} (h : GOk G) : walkG (G.n - G.i + 1) G = { refillG G with i := 1 } ∧ outG (walkG (G.n - G.i) G) = (refillG G).buf.getD 0 0 := by
  have hi := h.hi
  have e := walkG_in (G.n - G.i) G (by omega)
  rw [show G.i + (G.n - G.i) = G.n by omega] at e
  refine ⟨?_, ?_⟩
  · rw [walkG_add, e, walkG, walkG, nextG, if_neg (by show ¬ G.n < G.n; omega), refill_i_any]
  · rw [e, outG, if_neg (by show ¬ G.n < G.n; omega), refill_i_any]

theorem big_aux (f : Nat → Nat) (h : ∃ k, k < 32 ∧ 4294967296 ≤ f k) : ∃ k, k < 32 ∧ 4294967296 ≤ ((List.range 32).map f).getD k 0 := by
  obtain ⟨k, hk1, hk2⟩ := h
  refine ⟨k, hk1, ?_⟩
  rw [List.getD_eq_getElem?_getD]
  simpa [hk1] using hk2
theorem block_big' {key : Array Nat} (h : Ok8 key) (n : Nat) : ∃ k, k < 32 ∧ 4294967296 ≤ blockWord key n k := by
  have e : Extern.Chacha8Block.m32 = 4294967296 := rfl
  have := block_big h n
  rwa [e] at this
theorem refill_buf (G : Gen) : ∃ s0 s1 s2 s3 n : Nat, (refillG G).buf = (List.range 32).map (blockWord (keyOf s0 s1 s2 s3) n) ∧ (GOk G → Ok8 (keyOf s0 s1 s2 s3)) := by
  by_cases hc : G.c = 12
  · exact ⟨G.buf.getD 28 0, G.buf.getD 29 0, G.buf.getD 30 0, G.buf.getD 31 0, 0, by rw [refillG, if_pos hc], fun h => keyOf_ok (getD_lt h 28) (getD_lt h 29) (getD_lt h 30) (getD_lt h 31)⟩
  · exact ⟨G.s0, G.s1, G.s2, G.s3, G.c + 4, by rw [refillG, if_neg hc], fun h => keyOf_ok h.l0 h.l1 h.l2 h.l3⟩
theorem big32 {G : Gen} (h : GOk G) : ∃ k, k < 32 ∧ 4294967296 ≤ (refillG G).buf.getD k 0 := by
  obtain ⟨s0, s1, s2, s3, n, e, ho⟩ := refill_buf G
  rw [e]
  exact big_aux _ (block_big' (ho h) n)

theorem comes_full {G : Gen} (h : GOk G) (hn : (refillG G).n = 32) : ∃ k, k ≤ G.n + 32 ∧ 4294967296 ≤ outG (walkG k G) := by
  obtain ⟨k, hk, hb⟩ := big32 h
  obtain ⟨h1, h2⟩ := walkG_over h
  by_cases hz : k = 0
  · subst hz
    exact ⟨G.n - G.i, by omega, by rw [h2]; exact hb⟩
  · refine ⟨G.n - G.i + 1 + (k - 1), by omega, ?_⟩
    rw [walkG_add, h1, walkG_in (k - 1) _ (by show 1 + (k - 1) ≤ (refillG G).n; omega), outG, if_pos (by show 1 + (k - 1) < (refillG G).n; omega)]
    show 4294967296 ≤ (refillG G).buf.getD (1 + (k - 1)) 0
    rw [show 1 + (k - 1) = k by omega]; exact hb

/-- From every generator a word of at least 2^32 comes. -/
theorem comes {G : Gen} (h : GOk G) : ∃ k, k < 200 ∧ 4294967296 ≤ outG (walkG k G) := by
  have hn32 := h.hn
  by_cases hn : (refillG G).n = 32
  · obtain ⟨k, k1, k2⟩ := comes_full h hn
    exact ⟨k, by omega, k2⟩
  · obtain ⟨h1, _⟩ := walkG_over h
    have hok := walkG_ok (G.n - G.i + 1) h
    have h12 : (refillG G).c = 12 := by
      unfold refillG at hn ⊢
      by_cases hc : G.c = 12
      · rw [if_pos hc] at hn; exact absurd rfl hn
      · rw [if_neg hc] at hn ⊢
        simp only [] at hn ⊢
        by_cases h8 : G.c = 8
        · omega
        · rw [if_neg h8] at hn; exact absurd rfl hn
    have hk32 := hok.hn
    obtain ⟨k, hk0, hk⟩ := comes_full hok (by
      rw [h1, refill_i_any]
      unfold refillG
      rw [if_pos (by exact h12)])
    exact ⟨G.n - G.i + 1 + k, by omega, by rw [walkG_add]; exact hk⟩

/-- The first k from a on where p holds (looked for f places on). -/
def findN (p : Nat → Bool) : Nat → Nat → Nat
  | 0, a => a
  | f + 1, a => if p a = true then a else findN p f (a + 1)
theorem findN_spec (p : Nat → Bool) : ∀ (f a m : Nat), a ≤ m → m < a + f → p m = true → p (findN p f a) = true ∧ ∀ j, a ≤ j → j < findN p f a → p j = false
  | 0, a, m, h1, h2, _ => by omega
  | f + 1, a, m, h1, h2, hm => by
    rw [findN]
    by_cases ha : p a = true
    · rw [if_pos ha]
      exact ⟨ha, fun j h3 h4 => by omega⟩
    · rw [if_neg ha]
      have hne : a ≠ m := fun e => ha (by rw [e]; exact hm)
      obtain ⟨q1, q2⟩ := findN_spec p f (a + 1) m (by omega) (by omega) hm
      refine ⟨q1, fun j h3 h4 => ?_⟩
      by_cases hj : j = a
      · subst hj; simpa using ha
      · exact q2 j (by omega) h4
end Go.Proofs.Ybulkvuk
