import GoSem.Extern.Chacha8Block
namespace Go.Proofs.Ybulkvuk
open Go.Extern.Chacha8Block
set_option linter.unusedVariables false

/-- A state of ChaCha: 16 words of 32 bits. -/
def Ok16 (s : Array Nat) : Prop := s.size = 16 ∧ ∀ i, s.getD i 0 < m32

def addS (s : Array Nat) (a b : Nat) : Array Nat := s.setIfInBounds a ((s.getD a 0 + s.getD b 0) % m32)
def xrS (s : Array Nat) (d a k : Nat) : Array Nat := s.setIfInBounds d (rotl (s.getD d 0 ^^^ s.getD a 0) k)

theorem getD_set (s : Array Nat) (a i x : Nat) (ha : a < s.size) : (s.setIfInBounds a x).getD i 0 = if i = a then x else s.getD i 0 := by
  simp only [Array.getD_eq_getD_getElem?, Array.getElem?_setIfInBounds]
  by_cases h : i = a
  · subst h; simp [ha]
  · simp [h, Ne.symm h]

theorem rotl_lt {x k : Nat} (hx : x < m32) (hk : k = 16 ∨ k = 12 ∨ k = 8 ∨ k = 7) : rotl x k < m32 := by
  unfold rotl m32 at *
  rcases hk with rfl | rfl | rfl | rfl <;> simp only [Nat.reducePow, Nat.reduceSub] at * <;> omega

theorem rot_aux {A B x y : Nat} (hA : 0 < A) (hB : 0 < B) (hx : x < A * B) (hy : y < A * B) (h : x * A % (A * B) + x / B = y * A % (A * B) + y / B) : x = y := by
  rw [Nat.mul_comm A B, Nat.mul_mod_mul_right, Nat.mul_mod_mul_right] at h
  have qx : x / B < A := Nat.div_lt_of_lt_mul (by rw [Nat.mul_comm]; exact hx)
  have qy : y / B < A := Nat.div_lt_of_lt_mul (by rw [Nat.mul_comm]; exact hy)
  have h1 : x / B = y / B := by
    have := congrArg (· % A) h
    simp only [Nat.mul_add_mod'] at this
    rwa [Nat.mod_eq_of_lt qx, Nat.mod_eq_of_lt qy] at this
  have h2 : x % B = y % B := by
    rw [h1] at h
    exact Nat.eq_of_mul_eq_mul_right hA (Nat.add_right_cancel h)
  rw [← Nat.div_add_mod x B, ← Nat.div_add_mod y B, h1, h2]

theorem rotl_inj {x y k : Nat} (hx : x < m32) (hy : y < m32) (hk : k = 16 ∨ k = 12 ∨ k = 8 ∨ k = 7) (h : rotl x k = rotl y k) : x = y := by
  rcases hk with rfl | rfl | rfl | rfl
  · exact rot_aux (A := 65536) (B := 65536) (by decide) (by decide) hx hy h
  · exact rot_aux (A := 4096) (B := 1048576) (by decide) (by decide) hx hy h
  · exact rot_aux (A := 256) (B := 16777216) (by decide) (by decide) hx hy h
  · exact rot_aux (A := 128) (B := 33554432) (by decide) (by decide) hx hy h

theorem xor_lt {x y : Nat} (hx : x < m32) (hy : y < m32) : x ^^^ y < m32 := Nat.xor_lt_two_pow hx hy

theorem addS_ok {s : Array Nat} {a b : Nat} (h : Ok16 s) (ha : a < 16) : Ok16 (addS s a b) := by
  obtain ⟨h1, h2⟩ := h
  refine ⟨by simp [addS, h1], fun i => ?_⟩
  rw [addS, getD_set _ _ _ _ (by omega)]
  split
  · exact Nat.mod_lt _ (by decide)
  · exact h2 i

theorem xrS_ok {s : Array Nat} {d a k : Nat} (h : Ok16 s) (hd : d < 16) (hk : k = 16 ∨ k = 12 ∨ k = 8 ∨ k = 7) : Ok16 (xrS s d a k) := by
  obtain ⟨h1, h2⟩ := h
  refine ⟨by simp [xrS, h1], fun i => ?_⟩
  rw [xrS, getD_set _ _ _ _ (by omega)]
  split
  · exact rotl_lt (xor_lt (h2 d) (h2 a)) hk
  · exact h2 i

theorem ext16 {s t : Array Nat} (hs : s.size = 16) (ht : t.size = 16) (h : ∀ i, s.getD i 0 = t.getD i 0) : s = t := by
  refine Array.ext (by omega) fun i h1 h2 => ?_
  have := h i
  simpa [Array.getD_eq_getD_getElem?, h1, h2] using this

theorem addS_inj {s t : Array Nat} {a b : Nat} (hs : Ok16 s) (ht : Ok16 t) (ha : a < 16) (hab : b ≠ a) (h : addS s a b = addS t a b) : s = t := by
  have e : ∀ i, i ≠ a → s.getD i 0 = t.getD i 0 := fun i hi => by
    have := congrArg (fun x => x.getD i 0) h
    simpa [addS, getD_set _ _ _ _ (show a < s.size by rw [hs.1]; exact ha), getD_set _ _ _ _ (show a < t.size by rw [ht.1]; exact ha), hi] using this
  refine ext16 hs.1 ht.1 fun i => ?_
  by_cases hi : i = a
  · subst hi
    have h1 := congrArg (fun x => x.getD i 0) h
    simp only [addS, getD_set _ _ _ _ (show i < s.size by rw [hs.1]; exact ha), getD_set _ _ _ _ (show i < t.size by rw [ht.1]; exact ha), if_true] at h1
    have h2 := e b hab
    have h3 := hs.2 i
    have h4 := ht.2 i
    rw [h2] at h1
    unfold m32 at *
    omega
  · exact e i hi

theorem xrS_inj {s t : Array Nat} {d a k : Nat} (hs : Ok16 s) (ht : Ok16 t) (hd : d < 16) (hda : a ≠ d) (hk : k = 16 ∨ k = 12 ∨ k = 8 ∨ k = 7) (h : xrS s d a k = xrS t d a k) : s = t := by
  have e : ∀ i, i ≠ d → s.getD i 0 = t.getD i 0 := fun i hi => by
    have := congrArg (fun x => x.getD i 0) h
    simpa [xrS, getD_set _ _ _ _ (show d < s.size by rw [hs.1]; exact hd), getD_set _ _ _ _ (show d < t.size by rw [ht.1]; exact hd), hi] using this
  refine ext16 hs.1 ht.1 fun i => ?_
  by_cases hi : i = d
  · subst hi
    have h1 := congrArg (fun x => x.getD i 0) h
    simp only [xrS, getD_set _ _ _ _ (show i < s.size by rw [hs.1]; exact hd), getD_set _ _ _ _ (show i < t.size by rw [ht.1]; exact hd), if_true] at h1
    have h2 := rotl_inj (xor_lt (hs.2 i) (hs.2 a)) (xor_lt (ht.2 i) (ht.2 a)) hk h1
    rw [e a hda] at h2
    have h3 := congrArg (fun z => z ^^^ t.getD a 0) h2
    simpa [Nat.xor_assoc, Nat.xor_self] using h3
  · exact e i hi

theorem qr_eq (s : Array Nat) (a b c d : Nat) : qr s a b c d = xrS (addS (xrS (addS (xrS (addS (xrS (addS s a b) d a 16) c d) b c 12) a b) d a 8) c d) b c 7 := rfl

/-- Four places, all apart. -/
structure Apart4 (a b c d : Nat) : Prop where
  la : a < 16
  lb : b < 16
  lc : c < 16
  ld : d < 16
  ab : b ≠ a
  ad : a ≠ d
  cd : d ≠ c
  bc : c ≠ b

theorem qr_ok {s : Array Nat} {a b c d : Nat} (h : Ok16 s) (p : Apart4 a b c d) : Ok16 (qr s a b c d) := by
  rw [qr_eq]
  exact xrS_ok (addS_ok (xrS_ok (addS_ok (xrS_ok (addS_ok (xrS_ok (addS_ok h p.la) p.ld (by simp)) p.lc) p.lb (by simp)) p.la) p.ld (by simp)) p.lc) p.lb (by simp)

theorem qr_inj {s t : Array Nat} {a b c d : Nat} (hs : Ok16 s) (ht : Ok16 t) (p : Apart4 a b c d) (h : qr s a b c d = qr t a b c d) : s = t := by
  rw [qr_eq, qr_eq] at h
  have s1 := addS_ok (b := b) hs p.la
  have t1 := addS_ok (b := b) ht p.la
  have s2 := xrS_ok (a := a) (k := 16) s1 p.ld (by simp)
  have t2 := xrS_ok (a := a) (k := 16) t1 p.ld (by simp)
  have s3 := addS_ok (b := d) s2 p.lc
  have t3 := addS_ok (b := d) t2 p.lc
  have s4 := xrS_ok (a := c) (k := 12) s3 p.lb (by simp)
  have t4 := xrS_ok (a := c) (k := 12) t3 p.lb (by simp)
  have s5 := addS_ok (b := b) s4 p.la
  have t5 := addS_ok (b := b) t4 p.la
  have s6 := xrS_ok (a := a) (k := 8) s5 p.ld (by simp)
  have t6 := xrS_ok (a := a) (k := 8) t5 p.ld (by simp)
  have s7 := addS_ok (b := d) s6 p.lc
  have t7 := addS_ok (b := d) t6 p.lc
  have h7 := xrS_inj s7 t7 p.lb p.bc (by simp) h
  have h6 := addS_inj s6 t6 p.lc p.cd h7
  have h5 := xrS_inj s5 t5 p.ld p.ad (by simp) h6
  have h4 := addS_inj s4 t4 p.la p.ab h5
  have h3 := xrS_inj s3 t3 p.lb p.bc (by simp) h4
  have h2 := addS_inj s2 t2 p.lc p.cd h3
  have h1 := xrS_inj s1 t1 p.ld p.ad (by simp) h2
  exact addS_inj hs ht p.la p.ab h1

theorem p1 : Apart4 0 4 8 12 := by constructor <;> decide
theorem p2 : Apart4 1 5 9 13 := by constructor <;> decide
theorem p3 : Apart4 2 6 10 14 := by constructor <;> decide
theorem p4 : Apart4 3 7 11 15 := by constructor <;> decide
theorem p5 : Apart4 0 5 10 15 := by constructor <;> decide
theorem p6 : Apart4 1 6 11 12 := by constructor <;> decide
theorem p7 : Apart4 2 7 8 13 := by constructor <;> decide
theorem p8 : Apart4 3 4 9 14 := by constructor <;> decide

theorem half_ok {s : Array Nat} (h : Ok16 s) : Ok16 (qr (qr (qr (qr s 0 4 8 12) 1 5 9 13) 2 6 10 14) 3 7 11 15) := qr_ok (qr_ok (qr_ok (qr_ok h p1) p2) p3) p4
theorem half_inj {s t : Array Nat} (hs : Ok16 s) (ht : Ok16 t) (h : qr (qr (qr (qr s 0 4 8 12) 1 5 9 13) 2 6 10 14) 3 7 11 15 = qr (qr (qr (qr t 0 4 8 12) 1 5 9 13) 2 6 10 14) 3 7 11 15) : s = t :=
  qr_inj hs ht p1 (qr_inj (qr_ok hs p1) (qr_ok ht p1) p2 (qr_inj (qr_ok (qr_ok hs p1) p2) (qr_ok (qr_ok ht p1) p2) p3 (qr_inj (qr_ok (qr_ok (qr_ok hs p1) p2) p3) (qr_ok (qr_ok (qr_ok ht p1) p2) p3) p4 h)))
theorem dr_ok {s : Array Nat} (h : Ok16 s) : Ok16 (doubleRound s) := qr_ok (qr_ok (qr_ok (qr_ok (half_ok h) p5) p6) p7) p8
theorem dr_inj {s t : Array Nat} (hs : Ok16 s) (ht : Ok16 t) (h : doubleRound s = doubleRound t) : s = t := by
  have a := half_ok hs
  have b := half_ok ht
  exact half_inj hs ht (qr_inj a b p5 (qr_inj (qr_ok a p5) (qr_ok b p5) p6 (qr_inj (qr_ok (qr_ok a p5) p6) (qr_ok (qr_ok b p5) p6) p7 (qr_inj (qr_ok (qr_ok (qr_ok a p5) p6) p7) (qr_ok (qr_ok (qr_ok b p5) p6) p7) p8 h))))

theorem rounds_eq (s : Array Nat) : (List.range 4).foldl (fun s _ => doubleRound s) s = doubleRound (doubleRound (doubleRound (doubleRound s))) := by
  simp [List.range_succ]
theorem rounds_ok {s : Array Nat} (h : Ok16 s) : Ok16 (doubleRound (doubleRound (doubleRound (doubleRound s)))) := dr_ok (dr_ok (dr_ok (dr_ok h)))
theorem rounds_inj {s t : Array Nat} (hs : Ok16 s) (ht : Ok16 t) (h : doubleRound (doubleRound (doubleRound (doubleRound s))) = doubleRound (doubleRound (doubleRound (doubleRound t)))) : s = t :=
  dr_inj hs ht (dr_inj (dr_ok hs) (dr_ok ht) (dr_inj (dr_ok (dr_ok hs)) (dr_ok (dr_ok ht)) (dr_inj (dr_ok (dr_ok (dr_ok hs))) (dr_ok (dr_ok (dr_ok ht))) h)))

def startOf (key : Array Nat) (c : Nat) : Array Nat := #[0x61707865, 0x3320646e, 0x79622d32, 0x6b206574] ++ key ++ #[c % m32, 0, 0, 0]

def Ok8 (key : Array Nat) : Prop := ∃ k0 k1 k2 k3 k4 k5 k6 k7 : Nat, key = #[k0, k1, k2, k3, k4, k5, k6, k7] ∧ k0 < m32 ∧ k1 < m32 ∧ k2 < m32 ∧ k3 < m32 ∧ k4 < m32 ∧ k5 < m32 ∧ k6 < m32 ∧ k7 < m32

theorem start_eq (k0 k1 k2 k3 k4 k5 k6 k7 c : Nat) : startOf #[k0, k1, k2, k3, k4, k5, k6, k7] c = #[0x61707865, 0x3320646e, 0x79622d32, 0x6b206574, k0, k1, k2, k3, k4, k5, k6, k7, c % m32, 0, 0, 0] := by
  simp [startOf]

theorem all16 {a0 a1 a2 a3 a4 a5 a6 a7 a8 a9 a10 a11 a12 a13 a14 a15 : Nat} {p : Nat → Prop} (h0 : p a0) (h1 : p a1) (h2 : p a2) (h3 : p a3) (h4 : p a4) (h5 : p a5) (h6 : p a6) (h7 : p a7) (h8 : p a8) (h9 : p a9) (h10 : p a10) (h11 : p a11) (h12 : p a12) (h13 : p a13) (h14 : p a14) (h15 : p a15) (hz : p 0) (i : Nat) :
    p ((#[a0, a1, a2, a3, a4, a5, a6, a7, a8, a9, a10, a11, a12, a13, a14, a15] : Array Nat).getD i 0) := by
  match i with
  | 0 => exact h0
  | 1 => exact h1
  | 2 => exact h2
  | 3 => exact h3
  | 4 => exact h4
  | 5 => exact h5
  | 6 => exact h6
  | 7 => exact h7
  | 8 => exact h8
  | 9 => exact h9
  | 10 => exact h10
  | 11 => exact h11
  | 12 => exact h12
  | 13 => exact h13
  | 14 => exact h14
  | 15 => exact h15
  | i + 16 =>
    rw [Array.getD_eq_getD_getElem?, Array.getElem?_eq_none (by simp)]
    exact hz

theorem start_ok {key : Array Nat} (h : Ok8 key) (c : Nat) : Ok16 (startOf key c) := by
  obtain ⟨k0, k1, k2, k3, k4, k5, k6, k7, rfl, h0, h1, h2, h3, h4, h5, h6, h7⟩ := h
  rw [start_eq]
  have hc : c % m32 < m32 := Nat.mod_lt _ (by decide)
  have hz : (0 : Nat) < m32 := by decide
  generalize c % m32 = cc at *
  exact ⟨rfl, all16 (p := fun x => x < m32) (by decide) (by decide) (by decide) (by decide) h0 h1 h2 h3 h4 h5 h6 h7 hc hz hz hz hz⟩

theorem lane_eq (key : Array Nat) (c : Nat) : lane key c = (doubleRound (doubleRound (doubleRound (doubleRound (startOf key c))))).mapIdx fun r x => if 4 ≤ r ∧ r < 12 then (x + (startOf key c).getD r 0) % m32 else x := by
  simp only [lane, rounds_eq, startOf]

theorem lane_get {key : Array Nat} (h : Ok8 key) (c r : Nat) (hr : r < 16) : (lane key c).getD r 0 = if 4 ≤ r ∧ r < 12 then ((doubleRound (doubleRound (doubleRound (doubleRound (startOf key c))))).getD r 0 + (startOf key c).getD r 0) % m32 else (doubleRound (doubleRound (doubleRound (doubleRound (startOf key c))))).getD r 0 := by
  have hs := (rounds_ok (start_ok h c)).1
  rw [lane_eq]
  generalize doubleRound (doubleRound (doubleRound (doubleRound (startOf key c)))) = D at *
  generalize startOf key c = S
  simp only [Array.getD_eq_getD_getElem?, Array.getElem?_mapIdx]
  rw [Array.getElem?_eq_getElem (show r < D.size by omega)]
  simp

theorem start_key {key : Array Nat} (h : Ok8 key) (c c' r : Nat) (hr : r < 12) : (startOf key c).getD r 0 = (startOf key c').getD r 0 := by
  obtain ⟨k0, k1, k2, k3, k4, k5, k6, k7, rfl, _⟩ := h
  rw [start_eq, start_eq]
  generalize c % m32 = cc
  generalize c' % m32 = cc'
  match r, hr with
  | 0, _ => rfl
  | 1, _ => rfl
  | 2, _ => rfl
  | 3, _ => rfl
  | 4, _ => rfl
  | 5, _ => rfl
  | 6, _ => rfl
  | 7, _ => rfl
  | 8, _ => rfl
  | 9, _ => rfl
  | 10, _ => rfl
  | 11, _ => rfl

theorem start_ctr {key : Array Nat} (h : Ok8 key) (c : Nat) : (startOf key c).getD 12 0 = c % m32 := by
  obtain ⟨k0, k1, k2, k3, k4, k5, k6, k7, rfl, _⟩ := h
  rw [start_eq]
  generalize c % m32 = cc
  rfl

/-- Two lanes of one key that are alike in all rows have one counter. -/
theorem lane_inj {key : Array Nat} (h : Ok8 key) (c c' : Nat) (he : ∀ r, r < 16 → (lane key c).getD r 0 = (lane key c').getD r 0) : c % m32 = c' % m32 := by
  have hs := start_ok h c
  have ht := start_ok h c'
  have os := rounds_ok hs
  have ot := rounds_ok ht
  have e : startOf key c = startOf key c' := by
    refine rounds_inj hs ht (ext16 os.1 ot.1 fun i => ?_)
    by_cases hi : i < 16
    · have h1 := he i hi
      rw [lane_get h c i hi, lane_get h c' i hi] at h1
      by_cases hr : 4 ≤ i ∧ i < 12
      · rw [if_pos hr, if_pos hr, start_key h c c' i hr.2] at h1
        have a := os.2 i
        have b := ot.2 i
        generalize (startOf key c').getD i 0 = z at h1
        generalize (doubleRound (doubleRound (doubleRound (doubleRound (startOf key c))))).getD i 0 = x at *
        generalize (doubleRound (doubleRound (doubleRound (doubleRound (startOf key c'))))).getD i 0 = y at *
        unfold m32 at *
        omega
      · rw [if_neg hr, if_neg hr] at h1; exact h1
    · have hos := os.1
      have hot := ot.1
      simp only [Array.getD_eq_getD_getElem?]
      rw [Array.getElem?_eq_none (by omega), Array.getElem?_eq_none (by omega)]
  have := congrArg (fun x => x.getD 12 0) e
  simpa [start_ctr h] using this

/-- The words of a block, as the model's entry lays them. -/
def laneWord (key : Array Nat) (n j : Nat) : Nat := (((Array.range 4).map fun i => lane key (n + i)).getD (j % 4) #[]).getD (j / 4) 0
def blockWord (key : Array Nat) (n k : Nat) : Nat := laneWord key n (2 * k) + laneWord key n (2 * k + 1) * m32

theorem range_getD (f : Nat → Array Nat) (i : Nat) (h : i < 4) : ((Array.range 4).map f).getD i #[] = f i := by
  simp [Array.getD_eq_getD_getElem?, h]
theorem laneWord_eq (key : Array Nat) (n j : Nat) : laneWord key n j = (lane key (n + j % 4)).getD (j / 4) 0 := by
  have hj : j % 4 < 4 := Nat.mod_lt _ (by decide)
  unfold laneWord
  rw [range_getD _ _ hj]

/-- Not all the 32 words of a block are less than 2^32. -/
theorem block_big {key : Array Nat} (h : Ok8 key) (n : Nat) : ∃ k, k < 32 ∧ m32 ≤ blockWord key n k := by
  by_cases hno : ∃ k, k < 32 ∧ m32 ≤ blockWord key n k
  · exact hno
  exfalso
  have all : ∀ k, k < 32 → laneWord key n (2 * k + 1) = 0 := fun k hk => by
    have h1 : ¬ m32 ≤ blockWord key n k := fun hc => hno ⟨k, hk, hc⟩
    unfold blockWord m32 at h1
    omega
  have l1 : ∀ r, r < 16 → (lane key (n + 1)).getD r 0 = 0 := fun r hr => by
    have := all (2 * r) (by omega)
    rw [laneWord_eq, show (2 * (2 * r) + 1) % 4 = 1 by omega, show (2 * (2 * r) + 1) / 4 = r by omega] at this
    exact this
  have l3 : ∀ r, r < 16 → (lane key (n + 3)).getD r 0 = 0 := fun r hr => by
    have := all (2 * r + 1) (by omega)
    rw [laneWord_eq, show (2 * (2 * r + 1) + 1) % 4 = 3 by omega, show (2 * (2 * r + 1) + 1) / 4 = r by omega] at this
    exact this
  have := lane_inj h (n + 1) (n + 3) fun r hr => by rw [l1 r hr, l3 r hr]
  unfold m32 at this
  omega
end Go.Proofs.Ybulkvuk
