import Derived.Test.YbulkvukRSplit
namespace Go.Proofs.Ybulkvuk
open Go.RowKit
set_option linter.unusedVariables false

/-- An action without its block. -/
def absA (a : Ac) : Nat × Nat × Option Nat := (a.r, a.p, a.dst.map (·.2))
def addB (A : List (Nat × Nat × Option Nat)) (a : Nat × Nat × Option Nat) : List (Nat × Nat × Option Nat) := if A.length < 10000 then A ++ [a] else A
theorem abs_add (A : List Ac) (a : Ac) : (addA A a).map absA = addB (A.map absA) (absA a) := by
  unfold addA addB
  rw [List.length_map]
  split <;> simp
theorem addA_len (A : List Ac) (a : Ac) (h : A.length ≤ 10000) : (addA A a).length ≤ 10000 := by
  unfold addA
  split
  · rw [List.length_append, List.length_singleton]; omega
  · exact h

/-- What Send draws. -/
def sendG (n : Nat) (G : Gen) : Gen := if intV 2 G = 1 then intG 2 G else intG n (intG 2 G)
def sendT (n p : Nat) (G : Gen) : Option Nat := if intV 2 G = 1 then none else some ((reachL n p).getD (intV n (intG 2 G)) 0)

set_option maxRecDepth 100000 in
theorem sendToAll (B scb fb gb r p : Nat) (G : Gen) (mv av : Value) (A : List Ac) (w : World) (h : FSt w B scb fb gb G (.iface 49 mv) A av) (hl : A.length ≤ 10000) (hB : B ≤ w.heap.size) :
    Calls Yba.prog 32 #[.pointer (some ⟨fb, 0, none⟩), .int .i64 r, .int .i64 p, .iface 49 mv] w fun e w' => e = .returned (.tuple #[]) ∧ ∃ av', FSt w' B scb fb gb G (.iface 49 mv) (addA A ⟨r, p, none⟩) av' ∧ Below B w w' ∧ Kp fb gb av av' w w' := by
  have ha := add B scb fb gb G (.iface 49 mv) av A ⟨r, p, none⟩ w h hl hB rfl (fun tb x e => by cases e)
  go_enter Yba.func32, Yba.ntmps32
  go_wp2_with fail
  refine ha.mono ?_
  rintro e w' ⟨rfl, av', hF, hb, hk⟩
  go_wp2
  go_end0
  exact ⟨rfl, av', hF, hb, hk⟩

theorem reachL_row {n p : Nat} : (reachL n p).map (fun x : Nat => Value.int .i64 (x : Int)) = ((reachL n p).map fun x : Nat => (x : Int)).map (Value.int .i64) := by
  rw [List.map_map]; rfl

set_option maxRecDepth 100000 in
set_option maxHeartbeats 1000000 in
/-- (*Forgery).Send at the sizes [1]. -/
theorem send (B scb fb gb r p sb : Nat) (S : Scn) (G : Gen) (mv av : Value) (A : List Ac) (w : World) (hS : ScAt w B scb S) (h : FSt w B scb fb gb G (.iface 49 mv) A av) (hl : A.length ≤ 10000) (hB : B ≤ w.heap.size) (hp : p < S.n)
    (hsb : w.cell? ⟨sb, 0, none⟩ = some (.int .i64 1)) (hsg : sb ≠ gb) :
    Calls Yba.prog 15 #[.pointer (some ⟨fb, 0, none⟩), .int .i64 r, .int .i64 p, .iface 49 mv, .slice (some ⟨sb, 0, none⟩) 1 1] w fun e w' => e = .returned (.tuple #[]) ∧
      ∃ av' A', FSt w' B scb fb gb (sendG S.n G) (.iface 49 mv) A' av' ∧ A'.map absA = addB (A.map absA) (r, p, sendT S.n p G) ∧ A'.length ≤ 10000 ∧ Below B w w' ∧ Kp fb gb av av' w w' := by
  have h2 := hS.n2
  have h8 := hS.n8
  have lsb := World.block_lt_of_cell? w _ hsb
  simp only at lsb
  go_enter Yba.func15, Yba.ntmps15
  go_wp2_with fail
  refine (reach fb B scb p S w hS hp h.f0).mono ?_
  rintro e w1 ⟨rb, rc, rfl, hown1, hb1⟩
  have F1 := h.below hb1
  have s1 := hb1.size
  have hsb1 : w1.cell? ⟨sb, 0, none⟩ = some (.int .i64 1) := by rw [hb1.cell (p := ⟨sb, 0, none⟩) lsb]; exact hsb
  rw [reachL_row] at hown1
  have hR1 := row_of_own hown1 (by rw [List.length_map, reachL_len _ _ (by omega)])
  have lrb := (hown1.lt rb rfl).1
  clear hown1
  go_wp2_with fail
  refine (heldSizes sb S.n (by omega) h8 w1 hsb1).mono ?_
  rintro e w2 ⟨hb, hc, rfl, lhb0, hhb, hb2⟩
  have F2 := F1.below hb2
  have s2 := hb2.size
  have hR2 := hR1.tr (Tr.of_below [] hb2) (by simp)
  have lgb := World.block_lt_of_cell? w _ h.gen.c0
  have lhb := World.block_lt_of_cell? w2 _ hhb
  simp only at lgb lhb
  go_wp2_with fail
  refine (intN fb gb 2 (by decide) (by decide) G w2 h.ne F2.f1 F2.gen F2.gok).mono ?_
  rintro e w3 ⟨rfl, hG3, hT3⟩
  have F3 := F2.step hT3 hG3 (intG_ok F2.gok 2)
  have hv := intV_lt (n := 2) G (by decide)
  have bw3 : Below B w w3 := ((hb1.mono hB).trans (hb2.mono (by omega))).trans (hT3.below (by omega) (by simpa using h.lg))
  have s3 := hT3.size
  have hhb3 := hT3.cell hhb (by simp; omega)
  have hR3 := hR2.tr hT3 (by simp; omega)
  have HN : Hid (S.n = S.n) := rfl
  have HW : Hid (Below B w w3) := bw3
  have HK3 : Hid (Kp fb gb av av w w3) := ((Kp.of_below av hb1).trans (Kp.of_below av hb2) s1).trans (Kp.of_tr av hT3) (by omega)
  have hlb := h.lb
  have hlg := h.lg
  have hne := h.ne
  clear F1 F2 hR1 hR2 hhb hsb1 hT3 hG3 hb1 hb2 bw3 hS h
  by_cases hk : intV 2 G = 1
  · have HG : Hid (sendG S.n G = intG 2 G ∧ sendT S.n p G = none) := ⟨by rw [sendG, if_pos hk], by rw [sendT, if_pos hk]⟩
    rw [hk]
    have e1 : ((1 : Nat) : Int) = 1 := rfl
    rw [e1]
    clear hk hv
    go_wp2_with fail
    refine (sendToAll B scb fb gb r p _ mv av A w3 F3 hl (by omega)).mono ?_
    rintro e w4 ⟨rfl, av', hF, hb4, hk4⟩
    go_wp2
    first | go_end0 | refine bodyPost_ret (results_none rfl _ _ _) rfl ?_
    refine ⟨rfl, av', _, by rw [HG.out.1]; exact hF, ?_, addA_len _ _ hl, HW.out.trans hb4, HK3.out.trans hk4 (by omega)⟩
    rw [abs_add, HG.out.2]; rfl
  · have hk0 : intV 2 G = 0 := by omega
    have HG : Hid (sendG S.n G = intG S.n (intG 2 G) ∧ sendT S.n p G = some ((reachL S.n p).getD (intV S.n (intG 2 G)) 0)) := ⟨by rw [sendG, if_neg hk], by rw [sendT, if_neg hk]⟩
    rw [hk0]
    have e1 : ((0 : Nat) : Int) = 0 := rfl
    rw [e1]
    clear hk hv hk0 e1
    go_wp2_with fail
    refine (split1 fb gb S.n rb rc h2 h8 (intG 2 G) (reachL S.n p) (reachL_len _ _ (by omega)) w3 hne F3.f1 F3.gen F3.gok hR3).mono ?_
    rintro e w4 ⟨tb, rest, rfl, ltb, htb, hG4, hT4⟩
    have F4 := F3.step hT4 hG4 (intG_ok F3.gok _)
    have s4 := hT4.size
    have ltb4 := World.block_lt_of_cell? w4 _ htb
    simp only at ltb4
    have lfb := World.block_lt_of_cell? w3 _ F3.f0
    have lav : ∀ k, av.ownBlock = some k → k < w3.heap.size := fun k hk => (F3.own.lt k hk).2
    simp only at lfb
    have HW4 : Hid (Below B w w4) := HW.out.trans (hT4.below (by omega) (by simpa using hlg))
    have HK4 : Hid (Kp fb gb av av w w4) := HK3.out.trans (Kp.of_tr av hT4) (by omega)
    clear hT4 hG4 F3 hhb3 hR3
    generalize (reachL S.n p).getD (intV S.n (intG 2 G)) 0 = x at *
    have ha := add B scb fb gb _ (.iface 49 mv) av A ⟨r, p, some (tb, x)⟩ w4 F4 hl (by omega) rfl (fun tb' x' e => by
      cases e
      exact ⟨by omega, by omega, by omega, fun e => by have := lav _ e; omega, htb⟩)
    go_wp2_with fail
    refine ha.mono ?_
    rintro e w5 ⟨rfl, av', hF, hb5, hk5⟩
    go_wp2
    first | go_end0 | refine bodyPost_ret (results_none rfl _ _ _) rfl ?_
    refine ⟨rfl, av', _, by rw [HG.out.1]; exact hF, ?_, addA_len _ _ hl, HW4.out.trans hb5, HK4.out.trans hk5 (by omega)⟩
    rw [abs_add, HG.out.2]; rfl
end Go.Proofs.Ybulkvuk
