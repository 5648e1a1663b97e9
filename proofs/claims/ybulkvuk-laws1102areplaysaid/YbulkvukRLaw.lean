import Derived.Test.YbulkvukRLawA
namespace Go.Proofs.Ybulkvuk
open Go.RowKit
set_option linter.unusedVariables false

theorem asrt49 (v : Value) (w : World) : (Instr.typeAssert (.iface 49 v) 20 49 true).run Yba.prog w = .ok (.tuple #[v, .bool true]) w := by
  simp [Instr.typeAssert, run_underlying Yba.underlying49]

theorem eq_nil' (wr W : World) (hb : Below wr.heap.size wr W) : Calls Yba.prog 16 #[.slice none 0 0, .slice none 0 0] W fun e w' => e = .returned (.bool true) ∧ Below wr.heap.size wr w' := by
  refine (eq_nil W).mono ?_
  rintro e w' ⟨rfl, rfl⟩
  exact ⟨rfl, hb⟩
theorem eq_one' (t1 t2 : Nat) (x : Int) (wr W : World) (hb : Below wr.heap.size wr W) (h1 : wr.cell? ⟨t1, 0, none⟩ = some (.int .i64 x)) (h2 : wr.cell? ⟨t2, 0, none⟩ = some (.int .i64 x)) :
    Calls Yba.prog 16 #[.slice (some ⟨t1, 0, none⟩) 1 1, .slice (some ⟨t2, 0, none⟩) 1 1] W fun e w' => e = .returned (.bool true) ∧ Below wr.heap.size wr w' := by
  refine (eq_one t1 t2 x W (by rw [hb.cell (World.block_lt_of_cell? wr _ h1)]; exact h1) (by rw [hb.cell (World.block_lt_of_cell? wr _ h2)]; exact h2)).mono ?_
  rintro e w' ⟨rfl, q, rfl⟩
  exact ⟨rfl, ⟨hb.os, hb.tape, hb.output, hb.size, hb.block⟩⟩

theorem grownNone {w w' : World} (h : Below w.heap.size w w') : w.grownBy w' none := ⟨h.os, h.tape, h.output, h.size, fun k hk _ => h.block k hk⟩
theorem own_below {w w' : World} {B e size n : Nat} {v : Value} {xs : List Value} (h : w.ownsRow B e size v n xs) (hb : Below w.heap.size w w') : w'.ownsRow B e size v n xs := by
  refine h.kept (grownNone hb) ?_
  cases v.ownBlock with
  | none => exact .inl rfl
  | some g => exact .inr (by simp)

set_option maxRecDepth 100000 in
set_option maxHeartbeats 4000000 in
/-- LawS1102AReplay. -/
theorem replay4 (a0 a1 seed draw : Nat) (h0 : a0 < 256) (h1 : a1 < 256) (hs : seed < 18446744073709551616) (hd : draw < 18446744073709551616) (P : List (Nat × List Nat)) (C : List Nat) (pa ca : Option Addr) (pc cc : Nat) (w : World) (hP : PlAt w pa P) (hC : CsAt w ca C) :
    Calls Yba.prog 4 #[.int .u8 a0, .int .u8 a1, .slice pa P.length pc, .slice ca C.length cc, .int .u64 seed, .int .u64 draw] w fun e w' => e = .returned (.bool true) ∧ Below w.heap.size w w' := by
  have htb := toobig P C pa ca pc cc w hP
  go_enter Yba.func4, Yba.ntmps4
  go_wp2_with fail
  refine htb.mono ?_
  rintro e w0 ⟨b, rfl, hsm, hb0⟩
  clear htb
  cases b with
  | true =>
    clear hsm hP hC
    go_wp2
    go_ret
    exact ⟨rfl, hb0⟩
  | false =>
    obtain ⟨hl, hcl, hol⟩ := hsm rfl
    have hbd := build8 a0 a1 h0 h1 P C pa ca pc cc w0 (hP.below hb0) (hC.below hb0) hl hcl hol
    have s0 := hb0.size
    have hcut : ∃ cut : Nat → Nat, ∀ r, CutAt (bldS a0 a1 P C) r (cut r) := ⟨fun r => cutN (frAt P) r P.length, bld_cut a0 a1 P C⟩
    have EP : Hid (P.length = (bldS a0 a1 P C).froms.length) := by show _ = _; simp [bldS]
    clear hP hC hsm hol
    go_wp2_with fail
    refine hbd.mono ?_
    rintro e w1 ⟨scb, fa, oa, fc, oc, rfl, hS, hT, hb1⟩
    clear hbd
    rw [EP.out]
    clear EP
    generalize bldS a0 a1 P C = S at *
    obtain ⟨cut, hcut⟩ := hcut
    have s1 := hb1.size
    have bw1 : Below w.heap.size w w1 := hb0.trans (hb1.mono s0)
    have HNF : Hid _ := fun (W : World) => newForgery scb seed draw hs hd W (.iface 49 (msgV S (firstG seed draw)))
    generalize firstG seed draw = G0 at HNF
    have hnf := HNF.out w1
    clear hb0 hb1
    go_wp2_with fail
    refine hnf.mono ?_
    rintro e w2 ⟨fb, gb, rfl, hF2, h22, hz2, hb2⟩
    clear hnf
    have s2 := hb2.size
    have S2 := hS.below hb2
    have T2 := hT.below hb2
    have hfo := forge w1.heap.size scb fb gb S cut hcut G0 w2 S2 hF2 s2 h22 (hz2 2)
    have bw2 : Below w.heap.size w w2 := bw1.trans (hb2.mono (by omega))
    clear hS hT hF2 h22 hz2 hb2 bw1 S2
    go_wp2_with fail
    refine hfo.mono ?_
    rintro e w3 ⟨rfl, mb, hL3⟩
    clear hfo
    have S3 := hL3.sc
    have b23 := hL3.bel
    have low3 := hL3.low
    have T3 := T2.below b23
    have bw3 : Below w.heap.size w w3 := bw2.trans (b23.mono (by omega))
    obtain ⟨A, av, hA, hAs, hAl, _⟩ := hL3.st
    obtain ⟨ao, ac, rfl⟩ := own_form hA.own
    have hact := actions fb ao A.length ac w3 hA.f3
    have HA : Hid (FSt w3 w1.heap.size scb fb gb (runR S cut S.rounds (msgG S G0, [])).1 (.iface 49 (msgV S G0)) A (.slice ao A.length ac)) := hA
    have HAS : Hid (A.map absA = (runR S cut S.rounds (msgG S G0, [])).2) := hAs
    clear hL3 hA hAs T2 b23 bw2
    go_wp2_with fail
    refine hact.mono ?_
    rintro e w3' ⟨rfl, rfl⟩
    clear hact
    have hnf := HNF.out w3'
    go_wp2_with fail
    refine hnf.mono ?_
    rintro e w4 ⟨fb', gb', rfl, hF4, h42, hz4, hb4⟩
    clear hnf
    have s3 := bw3.size
    have s4 := hb4.size
    obtain ⟨B, hB⟩ : ∃ B, B = w3'.heap.size := ⟨_, rfl⟩
    rw [← hB] at hF4 hb4 s4
    have lB : w1.heap.size ≤ B := by omega
    have lB' : w.heap.size ≤ B := by omega
    have bw4 : Below w.heap.size w w4 := bw3.trans (hb4.mono lB')
    have HBB : Hid (B = w3'.heap.size) := hB
    clear hB
    have S4 : ScAt w4 B scb S := (S3.mono lB).below hb4
    have T4 : TabAt w4 B fa oa fc oc S := (T3.mono lB).below hb4
    have hm := message B scb fb' gb' S G0 (.iface 49 (msgV S G0)) w4 S4 hF4 s4 h42 (hz4 2)
    clear S3 T3 h42 hz4
    go_wp2_with fail
    refine hm.mono ?_
    rintro e w5 ⟨rfl, F5, hT5⟩
    clear hm
    have lfb := hF4.lb
    have lgb := hF4.lg
    have hlt5 := F5.lt
    have hlt4 := hF4.lt
    have s5 := hT5.size
    have b5 : Below B w4 w5 := hT5.below s4 (by simp; omega)
    have S5 := S4.below b5
    have HF : Hid (∀ wm : World, wm = w5.alloc (.cells #[.int .i64 (msgS S G0 : Nat), .int .i64 (msgT S G0 : Nat), .string ⟨(msgP S G0).toArray⟩] 49) → FL w4 wm B scb fb' gb' w5.heap.size S G0 (msgG S G0, [])) := by
      rintro wm rfl
      have hb : Below w5.heap.size w5 (w5.alloc (.cells #[.int .i64 (msgS S G0 : Nat), .int .i64 (msgT S G0 : Nat), .string ⟨(msgP S G0).toArray⟩] 49)) := (Below.refl _ w5).alloc (Nat.le_refl _) _
      refine ⟨⟨[], _, F5.below hb, rfl, by simp, by simp [Value.ownBlock]⟩, S5.below (hb.mono (by omega)), ?_, ?_, ?_, by omega, by omega, b5.trans (hb.mono (by omega)), by simp; omega⟩
      · rw [World.cell?_alloc_at _ _ _ _ rfl]; rfl
      · rw [World.cell?_alloc_at _ _ _ _ rfl]; rfl
      · rw [World.cell?_alloc_at _ _ _ _ rfl]; rfl
    have HC : Hid _ := hcut
    have hn2 := S4.n2
    have hn8 := S4.n8
    have hr16 := S4.r16
    have hf64 := S4.f64
    have hlens := S4.lens
    have HLN : Hid (S.ons.length = S.froms.length) := hlens
    have HT4 : Hid (TabAt w4 B fa oa fc oc S) := T4
    have HS4 : Hid (ScAt w4 B scb S) := S4
    have HB4 : Hid (Below B w3' w4) := hb4
    have HBW : Hid (Below w.heap.size w w4) := bw4
    clear F5 hT5 b5 S5 hF4 T4 S4 hcut hlens hb4 bw4 HNF bw3 hlt4
    unfold msgV strV
    go_wp2_with fail
    have F0 : Hid _ := HF.out _ rfl
    generalize hmb : w5.heap.size = mb' at *
    clear HF hmb
    go_loopw [20] (fun c wr => ∃ r : Nat, r ≤ S.rounds ∧ c = .int .i64 ((r + 1 : Nat) : Int) ∧ FL w4 wr B scb fb' gb' mb' S G0 (runR S cut r (msgG S G0, []))) (fun c _ => S.rounds + 1 - (intOf c).toNat)
    case atStart => exact ⟨0, Nat.zero_le _, rfl, F0.out⟩
    case round =>
      clear F0
      obtain ⟨r, hr1, rfl, hL⟩ := hrel
      have rnd := hL.sc.rnd
      by_cases hlt : r < S.rounds
      · have q1 : ((r + 1 : Nat) : Int) ≤ (S.rounds : Int) := by omega
        go_wp2_with fail
        have ha := aagents B (r + 1) (cut (r + 1)) fc oc fa oa S wr (HT4.out.below hL.bel) (HC.out (r + 1)) hf64 HLN.out
        rw [show ((r + 1 : Nat) : Int) = (r : Int) + 1 by omega] at ha
        refine ha.mono ?_
        rintro e w2' ⟨v, rfl, ⟨oa', oc', rfl, hv⟩, rfl⟩
        obtain ⟨hll, hlx⟩ := agL_lt hL.sc (cut (r + 1))
        have HV : Hid (∀ (i x : Nat), (agL S (cut (r + 1)))[i]? = some x → ∃ ob oo, oa' = some ⟨ob, oo, none⟩ ∧ ob < B ∧ w2'.cell? ⟨ob, oo + i, none⟩ = some (.int .i64 (x : Int))) := hv
        have HLX : Hid _ := hlx
        have HRR : Hid (runR S cut (r + 1) (msgG S G0, []) = runP S.n (r + 1) (agL S (cut (r + 1))) (runR S cut r (msgG S G0, []))) := rfl
        have HL2 : Hid (FL w4 w2' B scb fb' gb' mb' S G0 (runR S cut r (msgG S G0, []))) := hL
        clear hv hL ha hlx
        generalize agL S (cut (r + 1)) = l at *
        generalize runR S cut r (msgG S G0, []) = s0 at *
        go_wp2_with fail
        go_loopw [71] (fun c wi => ∃ i : Nat, i ≤ l.length ∧ c = .int .i64 i ∧ FL w4 wi B scb fb' gb' mb' S G0 (runP S.n (r + 1) (l.take i) s0) ∧ Below B w2' wi) (fun c _ => l.length - (intOf c).toNat)
        case atStart => exact ⟨0, Nat.zero_le _, rfl, HL2.out, Below.refl _ _⟩
        case round =>
          obtain ⟨i, hi, rfl, hI, hbi⟩ := hrel
          by_cases hil : i < l.length
          · obtain ⟨p, hp⟩ : ∃ p, l[i]? = some p := ⟨_, List.getElem?_eq_getElem hil⟩
            obtain ⟨ob, oo, rfl, lob, q5⟩ := HV.out i p hp
            have hpn : p < S.n := HLX.out p (List.mem_of_getElem? hp)
            have q6 : wr.cell? ⟨ob, oo + i, none⟩ = some (.int .i64 (p : Int)) := by rw [hbi.cell (p := ⟨ob, oo + i, none⟩) lob]; exact q5
            have b1 : (i : Int) < (l.length : Int) := by omega
            obtain ⟨A', av', hA1, hA2, hA3, hA4⟩ := hI.st
            have HI : Hid (FL w4 wr B scb fb' gb' mb' S G0 (runP S.n (r + 1) (l.take i) s0)) := hI
            have HTK : Hid (runP S.n (r + 1) (l.take (i + 1)) s0 = stepP S.n (r + 1) (runP S.n (r + 1) (l.take i) s0) p) := runP_take hp
            go_wp2_with fail
            generalize hsi : runP S.n (r + 1) (l.take i) s0 = si at *
            clear hsi
            refine (coin fb' gb' si.1 wr hA1.ne hA1.f1 hA1.gen hA1.gok).mono ?_
            rintro e w3 ⟨rfl, hG3, hT3⟩
            have hC := HI.out.coin hT3 hG3
            have hA3' := hA1.step hT3 hG3 (intG_ok hA1.gok _)
            have low := HI.out.low
            have hb3 : Below B w2' w3 := hbi.trans (hT3.below low (by simp; omega))
            have s3 := hT3.size
            clear hI q5 hp hG3 hT3 hA1
            by_cases hk : intV 2 si.1 = 1
            · have HST : Hid (stepP S.n (r + 1) si p = (sendG S.n (intG 2 si.1), addB si.2 (r + 1, p, sendT S.n p (intG 2 si.1)))) := by show stepP _ _ _ _ = _; rw [stepP, if_pos hk]
              rw [decide_eq_true hk]
              have c0 := hC.m0
              have c1 := hC.m1
              have c2 := hC.m2
              obtain ⟨wq, hwq⟩ : ∃ wq, wq = w3.alloc (.cells #[.int .i64 1] 3) := ⟨_, rfl⟩
              have bq : Below w3.heap.size w3 wq := by rw [hwq]; exact (Below.refl _ w3).alloc (Nat.le_refl _) _
              have hCq := hC.below bq
              have hAq := hA3'.below bq
              have cq : wq.cell? ⟨w3.heap.size, 0, none⟩ = some (.int .i64 1) := by rw [hwq, World.cell?_alloc_at _ _ _ _ rfl]; rfl
              have sq := bq.size
              have hlt3 := hA3'.lt
              have hse := send B scb fb' gb' (r + 1) p w3.heap.size S (intG 2 si.1) (msgV S G0) av' A' wq hCq.sc hAq hA3 hCq.low hpn cq (by omega)
              rw [show ((r + 1 : Nat) : Int) = (r : Int) + 1 by omega] at hse
              have hbq : Below B w2' wq := hb3.trans (bq.mono (by omega))
              clear hC hA3' bq hb3
              go_wp2_with fail
              rw [← hwq]
              refine hse.mono ?_
              rintro e w4' ⟨rfl, av2, A2, hF4, hm4, hl4, hb4, hk4⟩
              have HS4' : Hid (FL w4 w4' B scb fb' gb' mb' S G0 (sendG S.n (intG 2 si.1), addB si.2 (r + 1, p, sendT S.n p (intG 2 si.1)))) := hCq.sent hA2 hA4 hF4 hm4 hl4 hb4 hk4
              have HB4' : Hid (Below B w2' w4') := hbq.trans hb4
              clear hCq hAq hse hF4 hm4 hb4 hk4 hbq hwq
              go_wp2
              go_roundw
              case rel => exact ⟨i + 1, by omega, by go_num, by rw [HTK.out, HST.out]; exact HS4'.out, HB4'.out⟩
              case measure => simp [intOf]; omega
            · have HST : Hid (stepP S.n (r + 1) si p = (intG 2 si.1, si.2)) := by show stepP _ _ _ _ = _; rw [stepP, if_neg hk]
              rw [decide_eq_false hk]
              have HC3 : Hid _ := hC
              clear hC hA3'
              go_wp2
              go_roundw
              case rel => exact ⟨i + 1, by omega, by go_num, by rw [HTK.out, HST.out]; exact HC3.out, hb3⟩
              case measure => simp [intOf]; omega
          · obtain rfl : i = l.length := by omega
            rw [List.take_length] at hI
            have HI : Hid _ := hI
            clear hI
            go_wp2
            go_roundw
            case rel => exact ⟨r + 1, by omega, by go_num, by rw [HRR.out]; exact HI.out⟩
            case measure => simp [intOf]; omega
      · obtain rfl : r = S.rounds := by omega
        have q1 : ¬ (((S.rounds + 1 : Nat) : Int) ≤ (S.rounds : Int)) := by omega
        obtain ⟨A2, av2, hZ, hab2, hl2, _⟩ := hL.st
        obtain ⟨ao2, ac2, rfl⟩ := own_form hZ.own
        have eab : A.map absA = A2.map absA := by rw [HAS.out, hab2]
        have el2 : A2.length = A.length := by have := congrArg List.length eab; simpa using this.symm
        have hb3r : Below w3'.heap.size w3' wr := by
          have := HBB.out
          have hx := HB4.out.trans hL.bel
          rwa [this] at hx
        have HTW : Hid (Two wr (.iface 49 (msgV S G0)) ao ao2 A.length ac ac2 A A2) := by
          refine ⟨⟨_, own_below HA.out.own hb3r⟩, ⟨_, by have := hZ.own; rwa [el2] at this⟩, rfl, el2, eab, fun a ha tb x hx => ?_, fun a ha tb x hx => (hZ.tos a ha tb x hx).2.2.2.2⟩
          have k := (HA.out.tos a ha tb x hx).2.2.2.2
          rw [hb3r.cell (p := ⟨tb, 0, none⟩) (World.block_lt_of_cell? w3' _ k)]; exact k
        have hact := actions fb' ao2 A2.length ac2 wr hZ.f3
        rw [el2] at hact
        have HBR : Hid (Below w.heap.size w wr) := HBW.out.trans (hL.bel.mono lB')
        clear hL hZ hab2 hl2 eab el2 hb3r HA HAS HB4 HBW HT4 HS4 HC HLN
        generalize A.length = n at *
        unfold msgV strV at HTW
        generalize msgS S G0 = sx at *
        generalize msgT S G0 = tx at *
        generalize (msgP S G0).toArray = px at *
        go_wp2_with fail
        refine hact.mono ?_
        rintro e wz ⟨rfl, rfl⟩
        clear hact
        go_wp2
        go_loopw [94] (fun c wk => ∃ i : Nat, i ≤ n ∧ c = .int .i64 i ∧ Below wz.heap.size wz wk) (fun c _ => n - (intOf c).toNat)
        case atStart => exact ⟨0, Nat.zero_le _, rfl, Below.refl _ _⟩
        case round =>
          obtain ⟨i, hi, rfl, hb⟩ := hrel
          have sb := hb.size
          by_cases hil : i < n
          · have b1 : (i : Int) < (n : Int) := by omega
            obtain ⟨g1, g2, ra, pb, rfl, rfl, lg1, lg2, hcell, hto⟩ := HTW.out.at hb hil
            obtain ⟨c10, c11, c12, c13⟩ := hcell g1 (.inl rfl)
            obtain ⟨c20, c21, c22, c23⟩ := hcell g2 (.inr rfl)
            have l1 : g1 < wr.heap.size := by omega
            have l2 : g2 < wr.heap.size := by omega
            clear hcell
            have has : ∀ W : World, (Instr.typeAssert (.iface 49 (.agg #[.int .i64 (sx : Int), .int .i64 (tx : Int), .string ⟨px⟩])) 20 49 true).run Yba.prog W = .ok (.tuple #[.agg #[.int .i64 (sx : Int), .int .i64 (tx : Int), .string ⟨px⟩], .bool true]) W := asrt49 _
            have HBB' : Hid (Below wz.heap.size wz wr) := hb
            clear hb
            rcases hto with ⟨c14, c24, c15, c25⟩ | ⟨t1, t2, x, c14, c24, c15, c25, lt1, lt2, k1, k2⟩
            · go_wp2
              go_region
              all_goals
                go_wp2_with fail
                refine (eq_nil' wr _ (by repeat (first | exact Below.refl _ _ | refine Below.drew ?_ | refine Below.alloc ?_ (by simp <;> omega) _))).mono ?_
                rintro e wq ⟨rfl, hq⟩
                have HQ : Hid (Below wz.heap.size wz wq) := HBB'.out.trans (hq.mono sb)
                clear hq
                go_wp2
                go_roundw
                case rel => exact ⟨i + 1, by omega, by go_num, HQ.out⟩
                case measure => simp [intOf]; omega
            · have K1 : Hid (wr.cell? ⟨t1, 0, none⟩ = some (.int .i64 (x : Int))) := k1
              have K2 : Hid (wr.cell? ⟨t2, 0, none⟩ = some (.int .i64 (x : Int))) := k2
              clear k1 k2
              go_wp2
              go_region
              all_goals
                go_wp2_with fail
                refine (eq_one' t1 t2 x wr _ (by repeat (first | exact Below.refl _ _ | refine Below.drew ?_ | refine Below.alloc ?_ (by simp <;> omega) _)) K1.out K2.out).mono ?_
                rintro e wq ⟨rfl, hq⟩
                have HQ : Hid (Below wz.heap.size wz wq) := HBB'.out.trans (hq.mono sb)
                clear hq
                go_wp2
                go_roundw
                case rel => exact ⟨i + 1, by omega, by go_num, HQ.out⟩
                case measure => simp [intOf]; omega
          · obtain rfl : i = n := by omega
            go_wp2
            go_ret
            exact ⟨rfl, HBR.out.trans (hb.mono (by have := HBR.out.size; omega))⟩
end Go.Proofs.Ybulkvuk
