import Derived.Test.YbulkvukRForge
namespace Go.Proofs.Ybulkvuk
open Go.RowKit
set_option linter.unusedVariables false

set_option maxRecDepth 100000 in
set_option maxHeartbeats 2000000 in
/-- Forge. -/
theorem forge (B scb fb gb : Nat) (S : Scn) (cut : Nat → Nat) (hcut : ∀ r, CutAt S r (cut r)) (G : Gen) (w : World) (hS : ScAt w B scb S) (h : FSt w B scb fb gb G (.iface 49 (msgV S G)) [] (.slice none 0 0)) (hB : B ≤ w.heap.size) (h2 : w.cell? ⟨fb, 2, none⟩ = some (.slice none 0 0)) (hf2 : w.frozen? ⟨fb, 2, none⟩ = false) :
    Calls Yba.prog 10 #[.pointer (some ⟨scb, 0, none⟩), .pointer (some ⟨fb, 0, none⟩)] w fun e w' => e = .returned (.tuple #[]) ∧ ∃ mb, FL w w' B scb fb gb mb S G (runR S cut S.rounds (msgG S G, [])) := by
  have hm := message B scb fb gb S G (.iface 49 (msgV S G)) w hS h hB h2 hf2
  have lb := h.lb
  have lg := h.lg
  have lt := h.lt
  have hn2 := hS.n2
  have hn8 := hS.n8
  have hr := hS.r16
  clear h2 hf2
  go_enter Yba.func10, Yba.ntmps10
  go_wp2_with fail
  refine hm.mono ?_
  rintro e w1 ⟨rfl, F1, hT1⟩
  have s1 := hT1.size
  have b1 : Below B w w1 := hT1.below hB (by simp; omega)
  have S1 := hS.below b1
  have HF : Hid (∀ wm : World, wm = w1.alloc (.cells #[.int .i64 (msgS S G : Nat), .int .i64 (msgT S G : Nat), .string ⟨(msgP S G).toArray⟩] 49) → FL w wm B scb fb gb w1.heap.size S G (msgG S G, [])) := by
    rintro wm rfl
    have hb : Below w1.heap.size w1 (w1.alloc (.cells #[.int .i64 (msgS S G : Nat), .int .i64 (msgT S G : Nat), .string ⟨(msgP S G).toArray⟩] 49)) := (Below.refl _ w1).alloc (Nat.le_refl _) _
    refine ⟨⟨[], _, F1.below hb, rfl, by simp, by simp [Value.ownBlock]⟩, S1.below (hb.mono (by omega)), ?_, ?_, ?_, by have := F1.lt; omega, by have := F1.lt; omega, b1.trans (hb.mono (by omega)), by simp; omega⟩
    · rw [World.cell?_alloc_at _ _ _ _ rfl]; rfl
    · rw [World.cell?_alloc_at _ _ _ _ rfl]; rfl
    · rw [World.cell?_alloc_at _ _ _ _ rfl]; rfl
  clear hm F1 hT1 b1 S1 hS h
  unfold msgV strV
  go_wp2_with fail
  have HC : Hid _ := hcut
  have F0 : Hid _ := HF.out _ rfl
  generalize hmb : w1.heap.size = mb at *
  clear HF hcut hmb
  go_loopw [5] (fun c wr => ∃ r : Nat, r ≤ S.rounds ∧ c = .int .i64 ((r + 1 : Nat) : Int) ∧ FL w wr B scb fb gb mb S G (runR S cut r (msgG S G, []))) (fun c _ => S.rounds + 1 - (intOf c).toNat)
  case atStart => exact ⟨0, Nat.zero_le _, rfl, F0.out⟩
  case round =>
    clear F0
    obtain ⟨r, hr1, rfl, hL⟩ := hrel
    have rnd := hL.sc.rnd
    by_cases hlt : r < S.rounds
    · have q1 : ((r + 1 : Nat) : Int) ≤ (S.rounds : Int) := by omega
      go_wp2_with fail
      have ha := agents B scb (r + 1) (cut (r + 1)) S wr hL.sc hL.low (HC.out (r + 1))
      rw [show ((r + 1 : Nat) : Int) = (r : Int) + 1 by omega] at ha
      refine ha.mono ?_
      rintro e w2 ⟨v, rfl, ⟨oa, oc, rfl, hv⟩, hb2⟩
      have hL2 := hL.below hb2
      obtain ⟨hll, hlx⟩ := agL_lt hL.sc (cut (r + 1))
      have HV : Hid (∀ (i x : Nat), (agL S (cut (r + 1)))[i]? = some x → ∃ ob oo, oa = some ⟨ob, oo, none⟩ ∧ ob < B ∧ w2.cell? ⟨ob, oo + i, none⟩ = some (.int .i64 (x : Int))) := fun i x hx => by
        obtain ⟨ob, oo, e, lo, q⟩ := hv i x hx
        exact ⟨ob, oo, e, lo, by rw [hb2.cell (World.block_lt_of_cell? wr _ q)]; exact q⟩
      have HLX : Hid _ := hlx
      have HRR : Hid (runR S cut (r + 1) (msgG S G, []) = runP S.n (r + 1) (agL S (cut (r + 1))) (runR S cut r (msgG S G, []))) := rfl
      have HL2 : Hid _ := hL2
      clear hv hb2 hL ha hlx hL2
      generalize agL S (cut (r + 1)) = l at *
      generalize runR S cut r (msgG S G, []) = s0 at *
      go_wp2_with fail
      go_loopw [22] (fun c wi => ∃ i : Nat, i ≤ l.length ∧ c = .int .i64 i ∧ FL w wi B scb fb gb mb S G (runP S.n (r + 1) (l.take i) s0) ∧ Below B w2 wi) (fun c _ => l.length - (intOf c).toNat)
      case atStart => exact ⟨0, Nat.zero_le _, rfl, HL2.out, Below.refl _ _⟩
      case round =>
        obtain ⟨i, hi, rfl, hI, hbi⟩ := hrel
        by_cases hil : i < l.length
        · obtain ⟨p, hp⟩ : ∃ p, l[i]? = some p := ⟨_, List.getElem?_eq_getElem hil⟩
          obtain ⟨ob, oo, rfl, lob, q5⟩ := HV.out i p hp
          have hpn : p < S.n := HLX.out p (List.mem_of_getElem? hp)
          have q6 : wr.cell? ⟨ob, oo + i, none⟩ = some (.int .i64 (p : Int)) := by rw [hbi.cell (p := ⟨ob, oo + i, none⟩) lob]; exact q5
          have b1 : (i : Int) < (l.length : Int) := by omega
          obtain ⟨A, av, hA1, hA2, hA3, hA4⟩ := hI.st
          have HI : Hid (FL w wr B scb fb gb mb S G (runP S.n (r + 1) (l.take i) s0)) := hI
          have HTK : Hid (runP S.n (r + 1) (l.take (i + 1)) s0 = stepP S.n (r + 1) (runP S.n (r + 1) (l.take i) s0) p) := runP_take hp
          go_wp2_with fail
          generalize hsi : runP S.n (r + 1) (l.take i) s0 = si at *
          clear hsi
          refine (coin fb gb si.1 wr hA1.ne hA1.f1 hA1.gen hA1.gok).mono ?_
          rintro e w3 ⟨rfl, hG3, hT3⟩
          have hC := HI.out.coin hT3 hG3
          have hA3' := hA1.step hT3 hG3 (intG_ok hA1.gok _)
          have low := HI.out.low
          have hb3 : Below B w2 w3 := hbi.trans (hT3.below low (by simp; omega))
          have s3 := hT3.size
          clear hI q5 hp hG3 hT3 hA1
          by_cases hk : intV 2 si.1 = 1
          · have HST : Hid (stepP S.n (r + 1) si p = (sendG S.n (intG 2 si.1), addB si.2 (r + 1, p, sendT S.n p (intG 2 si.1)))) := by show stepP _ _ _ _ = _; rw [stepP, if_pos hk]
            rw [decide_eq_true hk]
            have c0 := hC.m0
            have c1 := hC.m1
            have c2 := hC.m2
            obtain ⟨wq, hwq⟩ : ∃ wq, wq = w3.alloc (.cells #[.int .i64 1] 3) := ⟨_, rfl⟩
            have bq : Below w3.heap.size w3 wq := by rw [hwq]; exact (Below.refl _ w3).alloc (Nat.le_refl _) _
            have hCq := hC.below bq
            have hAq := hA3'.below bq
            have cq : wq.cell? ⟨w3.heap.size, 0, none⟩ = some (.int .i64 1) := by rw [hwq, World.cell?_alloc_at _ _ _ _ rfl]; rfl
            have sq := bq.size
            have hlt3 := hA3'.lt
            have hse := send B scb fb gb (r + 1) p w3.heap.size S (intG 2 si.1) (msgV S G) av A wq hCq.sc hAq hA3 hCq.low hpn cq (by omega)
            rw [show ((r + 1 : Nat) : Int) = (r : Int) + 1 by omega] at hse
            have hbq : Below B w2 wq := hb3.trans (bq.mono (by omega))
            clear hC hA3' bq hb3
            go_wp2_with fail
            rw [← hwq]
            refine hse.mono ?_
            rintro e w4 ⟨rfl, av', A', hF4, hm4, hl4, hb4, hk4⟩
            have HS4 : Hid (FL w w4 B scb fb gb mb S G (sendG S.n (intG 2 si.1), addB si.2 (r + 1, p, sendT S.n p (intG 2 si.1)))) := hCq.sent hA2 hA4 hF4 hm4 hl4 hb4 hk4
            have HB4 : Hid (Below B w2 w4) := hbq.trans hb4
            clear hCq hAq hse hF4 hm4 hb4 hk4 hbq hwq
            go_wp2
            go_roundw
            case rel => exact ⟨i + 1, by omega, by go_num, by rw [HTK.out, HST.out]; exact HS4.out, HB4.out⟩
            case measure => simp [intOf]; omega
          · have HST : Hid (stepP S.n (r + 1) si p = (intG 2 si.1, si.2)) := by show stepP _ _ _ _ = _; rw [stepP, if_neg hk]
            rw [decide_eq_false hk]
            have HC3 : Hid _ := hC
            clear hC hA3'
            go_wp2
            go_roundw
            case rel => exact ⟨i + 1, by omega, by go_num, by rw [HTK.out, HST.out]; exact HC3.out, hb3⟩
            case measure => simp [intOf]; omega
        · obtain rfl : i = l.length := by omega
          rw [List.take_length] at hI
          have HI : Hid _ := hI
          clear hI
          go_wp2
          go_roundw
          case rel => exact ⟨r + 1, by omega, by go_num, by rw [HRR.out]; exact HI.out⟩
          case measure => simp [intOf]; omega
    · obtain rfl : r = S.rounds := by omega
      have q1 : ¬ (((S.rounds + 1 : Nat) : Int) ≤ (S.rounds : Int)) := by omega
      have HL : Hid _ := hL
      clear hL
      go_wp2
      go_end0
      exact ⟨rfl, mb, HL.out⟩
end Go.Proofs.Ybulkvuk
