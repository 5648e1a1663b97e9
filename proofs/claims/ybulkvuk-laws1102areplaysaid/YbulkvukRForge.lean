import Derived.Test.YbulkvukRFold
namespace Go.Proofs.Ybulkvuk
open Go.RowKit
set_option linter.unusedVariables false

/-- Forge's loops: the message in block mb, the Forgery behind the fold s. -/
structure FL (w wr : World) (B scb fb gb mb : Nat) (S : Scn) (G0 : Gen) (s : Gen × List (Nat × Nat × Option Nat)) : Prop where
  st : ∃ A av, FSt wr B scb fb gb s.1 (.iface 49 (msgV S G0)) A av ∧ A.map absA = s.2 ∧ A.length ≤ 10000 ∧ av.ownBlock ≠ some mb
  sc : ScAt wr B scb S
  m0 : wr.cell? ⟨mb, 0, none⟩ = some (.int .i64 (msgS S G0 : Nat))
  m1 : wr.cell? ⟨mb, 1, none⟩ = some (.int .i64 (msgT S G0 : Nat))
  m2 : wr.cell? ⟨mb, 2, none⟩ = some (.string ⟨(msgP S G0).toArray⟩)
  n1 : mb ≠ fb
  n2 : mb ≠ gb
  bel : Below B w wr
  low : B ≤ wr.heap.size

theorem FL.below {w wr w' : World} {B scb fb gb mb : Nat} {S : Scn} {G0 : Gen} {s : Gen × List (Nat × Nat × Option Nat)} (h : FL w wr B scb fb gb mb S G0 s) (hb : Below wr.heap.size wr w') : FL w w' B scb fb gb mb S G0 s := by
  obtain ⟨⟨A, av, h1, h2, h3, h4⟩, hs, a, b, c, n1, n2, hbl, hl⟩ := h
  have cc : ∀ {o v}, wr.cell? ⟨mb, o, none⟩ = some v → w'.cell? ⟨mb, o, none⟩ = some v := fun hc => by rw [hb.cell (World.block_lt_of_cell? wr _ hc)]; exact hc
  exact ⟨⟨A, av, h1.below hb, h2, h3, h4⟩, hs.below (hb.mono hl), cc a, cc b, cc c, n1, n2, hbl.trans (hb.mono hl), Nat.le_trans hl hb.size⟩

theorem FL.coin {w wr w' : World} {B scb fb gb mb : Nat} {S : Scn} {G0 : Gen} {s : Gen × List (Nat × Nat × Option Nat)} (h : FL w wr B scb fb gb mb S G0 s) (ht : Tr [gb] wr w') (hg : GenAt w' gb (intG 2 s.1)) : FL w w' B scb fb gb mb S G0 (intG 2 s.1, s.2) := by
  obtain ⟨⟨A, av, h1, h2, h3, h4⟩, hs, a, b, c, n1, n2, hbl, hl⟩ := h
  have hb : Below B wr w' := ht.below hl (by simpa using h1.lg)
  have cc : ∀ {o v}, wr.cell? ⟨mb, o, none⟩ = some v → w'.cell? ⟨mb, o, none⟩ = some v := fun hc => ht.cell hc (by simpa using n2)
  exact ⟨⟨A, av, h1.step ht hg (intG_ok h1.gok _), h2, h3, h4⟩, hs.below hb, cc a, cc b, cc c, n1, n2, hbl.trans hb, Nat.le_trans hl ht.size⟩

theorem FL.sent {w wr w' : World} {B scb fb gb mb r p : Nat} {S : Scn} {G0 G : Gen} {T : List (Nat × Nat × Option Nat)} {A A' : List Ac} {av av' : Value} (h : FL w wr B scb fb gb mb S G0 (G, T)) (hA : A.map absA = T) (hav : av.ownBlock ≠ some mb)
    (hF : FSt w' B scb fb gb (sendG S.n G) (.iface 49 (msgV S G0)) A' av') (hm : A'.map absA = addB (A.map absA) (r, p, sendT S.n p G)) (hl' : A'.length ≤ 10000) (hb : Below B wr w') (hk : Kp fb gb av av' wr w') : FL w w' B scb fb gb mb S G0 (sendG S.n G, addB T (r, p, sendT S.n p G)) := by
  obtain ⟨_, hs, a, b, c, n1, n2, hbl, hl⟩ := h
  have lm := World.block_lt_of_cell? wr _ a
  obtain ⟨q1, q2⟩ := hk mb lm n1 n2 hav
  have cc : ∀ {o v}, wr.cell? ⟨mb, o, none⟩ = some v → w'.cell? ⟨mb, o, none⟩ = some v := fun hc => (World.cell?_of_block (a := ⟨mb, _, none⟩) q1).trans hc
  exact ⟨⟨A', av', hF, by rw [hm, hA], hl', q2⟩, hs.below hb, cc a, cc b, cc c, n1, n2, hbl.trans hb, Nat.le_trans hl hb.size⟩
end Go.Proofs.Ybulkvuk
