import Derived.Test.YbulkwbkClo2
import Derived.Lib.SliceRun
namespace Go.Proofs.Ybulkwbk
open Go.RowKit
set_option linter.unusedVariables false

theorem clo11_f {B csb sab bg bs mb : Nat} {ma : Option Addr} {n mc : Nat} {Mk : Nat → Bool} {ob : Nat → Nat} {cur : Array Value} {vd : Value} {D : List Nat} (i : Nat) (hi : i < n) (hn : n ≤ 1024) (hD : D.length ≤ 2000) (w : World)
    (hE : Env w B csb sab bg bs mb ma n mc Mk ob) (hS : DSt w B sab cur vd D) (hM : Mk i = false) :
    Calls Yba.prog 11 #[pt (ob i), .pointer (some ⟨bg, 0, none⟩), .pointer (some ⟨bs, 0, none⟩)] w fun e w' =>
      e = .returned (.bool false) ∧ (∃ vd', DSt w' B sab cur vd' D) ∧ Fr B (fun k => k = sab) w w' :=
  (clo11 B csb sab bg bs mb ma n mc Mk ob cur vd D i hi hn hD w hE hS).mono fun e w' h => by simpa [hM] using h

theorem clo11_t {B csb sab bg bs mb : Nat} {ma : Option Addr} {n mc : Nat} {Mk : Nat → Bool} {ob : Nat → Nat} {cur : Array Value} {vd : Value} {D : List Nat} (i : Nat) (hi : i < n) (hn : n ≤ 1024) (hD : D.length ≤ 2000) (w : World)
    (hE : Env w B csb sab bg bs mb ma n mc Mk ob) (hS : DSt w B sab cur vd D) (hM : Mk i = true) :
    Calls Yba.prog 11 #[pt (ob i), .pointer (some ⟨bg, 0, none⟩), .pointer (some ⟨bs, 0, none⟩)] w fun e w' =>
      e = .returned (.bool true) ∧ (∃ vd', DSt w' B sab cur vd' (D ++ [ob i])) ∧ Fr B (fun k => k = sab) w w' :=
  (clo11 B csb sab bg bs mb ma n mc Mk ob cur vd D i hi hn hD w hE hS).mono fun e w' h => by simpa [hM] using h

theorem Fr.rowLow {B : Nat} {X : Nat → Prop} {w w' : World} (h : Fr B X w w') {b n : Nat} {t : TypeId} {f : Nat → Value} (hr : w.rowIs b t n f) (hb : b < B) (hx : ¬ X b) : w'.rowIs b t n f := hr.of_block (h.low b hb hx)

set_option maxRecDepth 100000 in
set_option maxHeartbeats 1000000 in
/-- slices.IndexFunc over the children. -/
theorem idx12 (B csb sab bg bs mb : Nat) (ma : Option Addr) (n mc : Nat) (Mk : Nat → Bool) (ob : Nat → Nat) (cur : Array Value) (vd : Value) (D : List Nat) (hn : n ≤ 1024) (hD : D.length ≤ 900) (w : World)
    (hE : Env w B csb sab bg bs mb ma n mc Mk ob) (hS : DSt w B sab cur vd D) (hr : w.rowIs csb 25 n (fun i => pt (ob i))) :
    Calls Yba.prog 12 #[.slice (some ⟨csb, 0, none⟩) n n, .func (.func 11) #[] #[.pointer (some ⟨bg, 0, none⟩), .pointer (some ⟨bs, 0, none⟩)]] w fun e w' =>
      (e = .returned (.int .i64 (-1)) ∧ (∀ i, i < n → Mk i = false) ∧ (∃ vd', DSt w' B sab cur vd' D) ∧ Fr B (fun k => k = sab) w w') ∨
      (∃ t : Nat, t < n ∧ e = .returned (.int .i64 t) ∧ (∀ i, i < t → Mk i = false) ∧ Mk t = true ∧ (∃ vd', DSt w' B sab cur vd' (D ++ [ob t])) ∧ Fr B (fun k => k = sab) w w') := by
  have hlo := hE.low
  have hcs : csb < B := hlo.2.2.2.2.2.1
  have hcsa : ¬ csb = sab := by omega
  go_enter Yba.func12, Yba.ntmps12
  go_wp2
  go_loopw [8] (fun c wr => ∃ k : Nat, k ≤ n ∧ c = .int .i64 k ∧ (∀ i, i < k → Mk i = false) ∧ (∃ vd', DSt wr B sab cur vd' D) ∧ Fr B (fun k => k = sab) w wr) (fun c _ => n - (intOf c).toNat)
  case atStart => exact ⟨0, Nat.zero_le _, rfl, fun i h => by omega, ⟨_, hS⟩, Fr.refl _ _ _⟩
  case round =>
    obtain ⟨k, hk, rfl, hF, ⟨vd1, hS1⟩, hf1⟩ := hrel
    by_cases hkn : k < n
    · have hE1 := hE.fr (hf1.mono fun k h => .inl h)
      have b1 : (k : Int) < (n : Int) := by omega
      have c0 : wr.cell? ⟨csb, k, none⟩ = some (pt (ob k)) := (hf1.rowLow hr hcs hcsa).cell hkn
      have H1 : Hid (∀ i, i < k → Mk i = false) := hF
      clear hF hr
      cases hMk : Mk k with
      | true =>
        have HM : Hid (Mk k = true) := hMk
        clear hMk
        go_wp2_with (go_at_call 11; refine (clo11_t k hkn hn (by omega) _ hE1 hS1 HM.out).mono ?_; rintro e w' ⟨rfl, hd, hf⟩)
        go_ret
        exact .inr ⟨k, hkn, rfl, H1.out, HM.out, hd, hf1.trans hf⟩
      | false =>
        have HM : Hid (Mk k = false) := hMk
        clear hMk
        go_wp2_with (go_at_call 11; refine (clo11_f k hkn hn (by omega) _ hE1 hS1 HM.out).mono ?_; rintro e w' ⟨rfl, hd, hf⟩)
        have hfn := hf1.trans hf
        clear hE1 hS1 hf1 hf
        go_roundw
        case rel => exact ⟨k + 1, by omega, by go_num, fun i hi => by
          rcases Nat.lt_or_ge i k with h | h
          · exact H1.out i h
          · obtain rfl : i = k := by omega
            exact HM.out, hd, hfn⟩
        case measure => simp [intOf]; omega
    · obtain rfl : k = n := by omega
      have H1 : Hid (∀ i, i < k → Mk i = false) := hF
      clear hF
      go_wp2
      go_ret
      exact .inl ⟨rfl, H1.out, ⟨_, hS1⟩, hf1⟩
end Go.Proofs.Ybulkwbk
