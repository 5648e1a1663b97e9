import Derived.Test.YbulkwbkDel
namespace Go.Proofs.Ybulkwbk
open Go.RowKit
set_option linter.unusedVariables false

/-- Of the first j children those that go, and those that stay. -/
def del (Mk : Nat → Bool) (ob : Nat → Nat) (j : Nat) : List Nat := ((List.range j).filter Mk).map ob
def kep (Mk : Nat → Bool) (ob : Nat → Nat) (j : Nat) : List Nat := ((List.range j).filter fun i => !Mk i).map ob

theorem del_t {Mk : Nat → Bool} {ob : Nat → Nat} {j : Nat} (h : Mk j = true) : del Mk ob (j + 1) = del Mk ob j ++ [ob j] := by simp [del, List.range_succ, List.filter_append, h]
theorem del_f {Mk : Nat → Bool} {ob : Nat → Nat} {j : Nat} (h : Mk j = false) : del Mk ob (j + 1) = del Mk ob j := by simp [del, List.range_succ, List.filter_append, h]
theorem kep_t {Mk : Nat → Bool} {ob : Nat → Nat} {j : Nat} (h : Mk j = true) : kep Mk ob (j + 1) = kep Mk ob j := by simp [kep, List.range_succ, List.filter_append, h]
theorem kep_f {Mk : Nat → Bool} {ob : Nat → Nat} {j : Nat} (h : Mk j = false) : kep Mk ob (j + 1) = kep Mk ob j ++ [ob j] := by simp [kep, List.range_succ, List.filter_append, h]
theorem del_le (Mk : Nat → Bool) (ob : Nat → Nat) (j : Nat) : (del Mk ob j).length ≤ j := by
  unfold del; rw [List.length_map]; have := List.length_filter_le Mk (List.range j); simpa using this
theorem kep_le (Mk : Nat → Bool) (ob : Nat → Nat) (j : Nat) : (kep Mk ob j).length ≤ j := by
  unfold kep; rw [List.length_map]; have := List.length_filter_le (fun i => !Mk i) (List.range j); simpa using this
theorem kep_lt {Mk : Nat → Bool} {ob : Nat → Nat} {t : Nat} (h : Mk t = true) : ∀ j, t < j → (kep Mk ob j).length < j
  | 0, hj => by omega
  | j + 1, hj => by
    cases hm : Mk j with
    | true => rw [kep_t hm]; have := kep_le Mk ob j; omega
    | false =>
      have hne : t ≠ j := fun e => by rw [e, hm] at h; cases h
      rw [kep_f hm]; have := kep_lt (ob := ob) h j (by omega); simp; omega
theorem del_none {Mk : Nat → Bool} {ob : Nat → Nat} : ∀ j, (∀ i, i < j → Mk i = false) → del Mk ob j = []
  | 0, _ => rfl
  | j + 1, h => by rw [del_f (h j (by omega)), del_none j fun i hi => h i (by omega)]
theorem kep_all {Mk : Nat → Bool} {ob : Nat → Nat} : ∀ j, (∀ i, i < j → Mk i = false) → kep Mk ob j = (List.range j).map ob
  | 0, _ => rfl
  | j + 1, h => by rw [kep_f (h j (by omega)), kep_all j fun i hi => h i (by omega), List.range_succ]; simp

theorem Fr.setCells {B : Nat} {X : Nat → Prop} {a : World} {b : Nat} (hb : X b) : ∀ (vs : List Value) (o : Nat) (w : World), Fr B X a w → Fr B X a (w.setCells b o vs)
  | [], _, _, h => h
  | v :: r, o, w, h => by rw [World.setCells]; exact Fr.setCells hb r (o + 1) _ (h.setCell (p := ⟨b, o, none⟩) hb v)

theorem DSt.setCell {w : World} {B sab : Nat} {cur : Array Value} {vd : Value} {D : List Nat} (h : DSt w B sab cur vd D) {b o : Nat} (hb : b < B) (hs : B ≤ sab) (v : Value) : DSt (w.setCell ⟨b, o, none⟩ v) B sab cur vd D := by
  refine ⟨?_, h.size, ?_, by simpa [World.setCell] using h.hB⟩
  · rw [Below.heap_setCell _ _ _ _ (show sab ≠ b by omega)]; exact h.blk
  · exact ownsRow_setCell_other h.own (fun e => by have := (h.own.lt _ e).1; simp at this; omega) _
theorem DSt.setCells {B sab : Nat} {cur : Array Value} {vd : Value} {D : List Nat} {b : Nat} (hb : b < B) (hs : B ≤ sab) : ∀ (vs : List Value) (o : Nat) (w : World), DSt w B sab cur vd D → DSt (w.setCells b o vs) B sab cur vd D
  | [], _, _, h => h
  | v :: r, o, w, h => by rw [World.setCells]; exact DSt.setCells hb hs r (o + 1) _ (h.setCell hb hs v)

/-- What the row holds while slices.DeleteFunc goes over it. -/
structure Going (wr : World) (csb n j : Nat) (Mk : Nat → Bool) (ob : Nat → Nat) (g : Nat → Value) : Prop where
  row : wr.rowIs csb 25 n g
  done : ∀ u x, (kep Mk ob j)[u]? = some x → g u = pt x
  todo : ∀ u, j ≤ u → u < n → g u = pt (ob u)

theorem going_skip {wr : World} {csb n j : Nat} {Mk : Nat → Bool} {ob : Nat → Nat} {g : Nat → Value} (h : Going wr csb n j Mk ob g) (hM : Mk j = true) : Going wr csb n (j + 1) Mk ob g :=
  ⟨h.row, fun u x hx => h.done u x (by rwa [kep_t hM] at hx), fun u hu hn => h.todo u (by omega) hn⟩
theorem going_keep {wr : World} {csb n j : Nat} {Mk : Nat → Bool} {ob : Nat → Nat} {g : Nat → Value} (h : Going wr csb n j Mk ob g) (hM : Mk j = false) (hl : (kep Mk ob j).length < j) :
    Going (wr.setCell ⟨csb, (kep Mk ob j).length, none⟩ (pt (ob j))) csb n (j + 1) Mk ob (fun u => if u = (kep Mk ob j).length then pt (ob j) else g u) := by
  refine ⟨h.row.set _ _, fun u x hx => ?_, fun u hu hn => ?_⟩
  · rw [kep_f hM] at hx
    by_cases e : u = (kep Mk ob j).length
    · subst e
      rw [if_pos rfl]
      rw [List.getElem?_append_right (Nat.le_refl _)] at hx
      simp at hx
      rw [hx]
    · rw [if_neg e]
      refine h.done u x ?_
      by_cases e2 : u < (kep Mk ob j).length
      · rwa [List.getElem?_append_left e2] at hx
      · rw [List.getElem?_append_right (by omega), List.getElem?_eq_none (by simp; omega)] at hx
        cases hx
  · show (if u = (kep Mk ob j).length then pt (ob j) else g u) = _
    rw [if_neg (by omega)]; exact h.todo u (by omega) hn

set_option maxRecDepth 100000 in
set_option maxHeartbeats 2000000 in
/-- slices.DeleteFunc over the children. -/
theorem del10 (B csb sab bg bs mb : Nat) (ma : Option Addr) (n mc : Nat) (Mk : Nat → Bool) (ob : Nat → Nat) (cur : Array Value) (vd : Value) (D : List Nat) (hn : n ≤ 1024) (hD : D.length ≤ 900) (w : World)
    (hE : Env w B csb sab bg bs mb ma n mc Mk ob) (hS : DSt w B sab cur vd D) (hr : w.rowIs csb 25 n (fun i => pt (ob i))) :
    Calls Yba.prog 10 #[.slice (some ⟨csb, 0, none⟩) n n, .func (.func 11) #[] #[.pointer (some ⟨bg, 0, none⟩), .pointer (some ⟨bs, 0, none⟩)]] w fun e w' =>
      e = .returned (.slice (some ⟨csb, 0, none⟩) (kep Mk ob n).length n) ∧ (∀ u x, (kep Mk ob n)[u]? = some x → w'.cell? ⟨csb, u, none⟩ = some (pt x)) ∧ (∃ vd', DSt w' B sab cur vd' (D ++ del Mk ob n)) ∧ Fr B (fun k => k = sab ∨ k = csb) w w' := by
  have hlo := hE.low
  have hcs : csb < B := hlo.2.2.2.2.2.1
  have hsab : B ≤ sab := hlo.2.2.2.2.1
  have hcsa : ¬ csb = sab := by omega
  have hdl := del_le Mk ob
  have hI := idx12 B csb sab bg bs mb ma n mc Mk ob cur vd D hn hD
  go_enter Yba.func10, Yba.ntmps10
  go_wp2_with fail
  refine (hI _ hE hS hr).mono ?_
  rintro e w1 (⟨rfl, hall, ⟨vd1, hS1⟩, hf1⟩ | ⟨t, ht, rfl, hall, hMt, ⟨vd1, hS1⟩, hf1⟩)
  · clear hI
    have Hall : Hid (∀ i, i < n → Mk i = false) := hall
    clear hall
    go_wp2
    go_ret
    have hk := kep_all (ob := ob) n Hall.out
    refine ⟨by rw [hk]; simp, fun u x hx => ?_, ⟨vd1, by rw [del_none n Hall.out, List.append_nil]; exact hS1⟩, hf1.mono fun k h => .inl h⟩
    rw [hk] at hx
    have hu : u < n := by have := (List.getElem?_eq_some_iff.1 hx).1; simpa using this
    simp [hu] at hx
    rw [(hf1.rowLow hr hcs hcsa).cell hu, hx]
  · clear hI
    have Hall : Hid (∀ i, i < t → Mk i = false) := hall
    have HMt : Hid (Mk t = true) := hMt
    have hkt : (kep Mk ob (t + 1)).length = t := by rw [kep_t hMt, kep_all t hall]; simp
    have hg0 : Going w1 csb n (t + 1) Mk ob (fun i => pt (ob i)) := by
      refine ⟨hf1.rowLow hr hcs hcsa, fun u x hx => ?_, fun u _ _ => rfl⟩
      rw [kep_t hMt, kep_all t hall] at hx
      have hu : u < t := by have := (List.getElem?_eq_some_iff.1 hx).1; simpa using this
      simp [hu] at hx
      rw [hx]
    have hd0 : D ++ del Mk ob (t + 1) = D ++ [ob t] := by rw [del_t hMt, del_none t hall]; simp
    have hne : ((t : Int) == -1) = false := by simp
    have HK : Hid ((kep Mk ob (t + 1)).length = t) := hkt
    have HD0 : Hid (D ++ del Mk ob (t + 1) = D ++ [ob t]) := hd0
    clear hall hMt hkt hd0
    go_wp2_with fail
    go_loopw [5, 6] (fun s5 s6 wr => ∃ (i j : Nat) (g : Nat → Value), i < j ∧ t < j ∧ j ≤ n ∧ s5 = .int .i64 i ∧ s6 = .int .i64 j ∧ Hid (i = (kep Mk ob j).length) ∧ Going wr csb n j Mk ob g ∧ (∃ vd', DSt wr B sab cur vd' (D ++ del Mk ob j)) ∧ Fr B (fun k => k = sab ∨ k = csb) w wr) (fun _ s6 _ => n - (intOf s6).toNat)
    case atStart => exact ⟨t, t + 1, _, by omega, by omega, by omega, rfl, by go_num, HK.out.symm, hg0, ⟨vd1, by rw [HD0.out]; exact hS1⟩, hf1.mono fun k h => .inl h⟩
    case round =>
      clear hS1 hf1 hg0 HK HD0
      obtain ⟨i, j, g, hij, htj, hjn, rfl, rfl, HI, hG, ⟨vd2, hS2⟩, hf2⟩ := hrel
      have hdj := hdl j
      by_cases hlt : j < n
      · have hE2 := hE.fr hf2
        have b1 : (j : Int) < (n : Int) := by omega
        have b2 : (i : Int) < (n : Int) := by omega
        have c0 : wr.cell? ⟨csb, j, none⟩ = some (pt (ob j)) := by rw [hG.row.cell hlt, hG.todo j (Nat.le_refl _) hlt]
        have hDj : (D ++ del Mk ob j).length ≤ 2000 := by rw [List.length_append]; omega
        cases hMj : Mk j with
        | true =>
          have HM : Hid (Mk j = true) := hMj
          clear hMj
          go_wp2_with (go_at_call 11; refine (clo11_t j hlt hn hDj _ hE2 hS2 HM.out).mono ?_; rintro e w' ⟨rfl, hd, hf⟩)
          obtain ⟨vd3, hd⟩ := hd
          have hG' : Going w' csb n (j + 1) Mk ob g := by
            have := going_skip hG HM.out
            exact ⟨hf.rowLow this.row hcs hcsa, this.done, this.todo⟩
          have hd' : DSt w' B sab cur vd3 (D ++ del Mk ob (j + 1)) := by rw [del_t HM.out, ← List.append_assoc]; exact hd
          have hfn := hf2.trans (hf.mono fun k h => .inl h)
          clear hd hf hf2 hS2 hE2 hG c0
          go_roundw
          case rel => exact ⟨i, j + 1, g, by omega, by omega, by omega, rfl, by go_num, by show i = _; rw [kep_t HM.out]; exact HI.out, hG', ⟨vd3, hd'⟩, hfn⟩
          case measure => simp [intOf]; omega
        | false =>
          have HM : Hid (Mk j = false) := hMj
          clear hMj
          go_wp2_with (go_at_call 11; refine (clo11_f j hlt hn hDj _ hE2 hS2 HM.out).mono ?_; rintro e w' ⟨rfl, hd, hf⟩; have c1 := (hf.rowLow hG.row hcs hcsa).cell (show i < n by omega); have z1 := (hf.rowLow hG.row hcs hcsa).frozen i)
          obtain ⟨vd3, hd⟩ := hd
          have hG1 : Going w' csb n j Mk ob g := ⟨hf.rowLow hG.row hcs hcsa, hG.done, hG.todo⟩
          have hGn : Going (w'.setCell ⟨csb, i, none⟩ (pt (ob j))) csb n (j + 1) Mk ob (fun u => if u = i then pt (ob j) else g u) := by
            have h := going_keep hG1 HM.out (by rw [← HI.out]; exact hij)
            rw [← HI.out] at h; exact h
          have hd' : DSt (w'.setCell ⟨csb, i, none⟩ (pt (ob j))) B sab cur vd3 (D ++ del Mk ob (j + 1)) := by rw [del_f HM.out]; exact hd.setCell hcs hsab _
          have hfn : Fr B (fun k => k = sab ∨ k = csb) w (w'.setCell ⟨csb, i, none⟩ (pt (ob j))) := (hf2.trans (hf.mono fun k h => .inl h)).setCell (.inr rfl) _
          clear hd hf hf2 hS2 hE2 hG hG1 c0
          go_roundw
          case rel => exact ⟨i + 1, j + 1, _, by omega, by omega, by omega, by go_num, by go_num, by show i + 1 = _; rw [kep_f HM.out, List.length_append, ← HI.out]; rfl, hGn, ⟨vd3, hd'⟩, hfn⟩
          case measure => simp [intOf]; omega
      · obtain rfl : j = n := by omega
        have b2 : (i : Int) < (j : Int) := by omega
        have b3 : ¬ (j = i) := by omega
        have hcl : ∀ ty, (Builtin.clear_ #[23] ty #[.slice (some ⟨csb, i, none⟩) (j - i) (j - i)]).run Yba.prog wr = .ok (.tuple #[]) (wr.setCells csb i (List.replicate (j - i) (.pointer none))) :=
          fun ty => Lib.run_clear_slice wr 23 25 ty (.pointer none) Yba.underlying23 Yba.zeroValue25 rfl rfl csb i (j - i) (j - i) (by omega) (fun u hu => by rw [hG.row.cell (show i + u < j by omega)]; rfl) (fun u hu => hG.row.frozen _)
        have H2 : Hid (Going wr csb j j Mk ob g) := hG
        clear hG
        go_wp2
        go_ret
        refine ⟨by rw [← HI.out]; rfl, fun u x hx => ?_, ⟨vd2, DSt.setCells hcs hsab _ _ _ hS2⟩, Fr.setCells (.inr rfl) _ _ _ hf2⟩
        have hu := (List.getElem?_eq_some_iff.1 hx).1
        rw [← HI.out] at hu
        rw [World.cell?_setCells_out csb _ _ _ _ (fun _ _ => .inl hu), H2.out.row.cell (show u < j by omega), H2.out.done u x hx]
end Go.Proofs.Ybulkwbk
