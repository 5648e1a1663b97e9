import Derived.Test.YbulkvukFresh
namespace Go.Proofs.Ybulkvuk
open Go.RowKit
set_option linter.unusedVariables false

set_option maxRecDepth 100000 in
set_option maxHeartbeats 2000000 in
theorem apart_walk (a0 a2 : Int) (h0 : 0 ≤ a0) (h1 : a0 ≤ 255) (g0 : 0 ≤ a2) (g1 : a2 ≤ 255) (ad : Option Addr) (len cap : Nat) (hl : len ≤ 9223372036854775807) (w : World)
    (hA : 0 < len → ∃ b off, ad = some ⟨b, off, none⟩ ∧ b < w.heap.size ∧ ∀ j, j < len → ∃ (x y : Int) (z : ByteArray), w.cell? ⟨b, off + j * 3, none⟩ = some (.int .i64 x) ∧ w.cell? ⟨b, off + j * 3 + 1, none⟩ = some (.int .i64 y) ∧ w.cell? ⟨b, off + j * 3 + 1 + 1, none⟩ = some (.string z)) :
    Calls Yba.prog 6 #[.int .u8 a0, .slice ad len cap, .int .u8 a2] w fun e w' => e = .returned (.bool true) ∧ Below w.heap.size w w' := by
  by_cases hbig : 256 < len
  · have b1 : (256 : Int) < (len : Int) := by omega
    clear hA
    go_enter Yba.func6, Yba.ntmps6
    go_wp2
    go_ret
    exact ⟨rfl, Below.refl _ _⟩
  · obtain ⟨n, rfl⟩ := Int.eq_ofNat_of_zero_le h0
    obtain ⟨pk, rfl⟩ := Int.eq_ofNat_of_zero_le g0
    have b1 : ¬ (256 : Int) < (len : Int) := by omega
    go_enter Yba.func6, Yba.ntmps6
    go_wp2_with (go_at_call 17; go_in)
    go_loopw [24] (fun c wr => ∃ k : Nat, k ≤ len ∧ c = .int .i64 k ∧ Below w.heap.size w wr ∧ ∃ m vs ss M ns, m ≤ k ∧ Tab wr w.heap.size w.heap.size m vs ss M ns) (fun c _ => len - (intOf c).toNat)
    case atStart =>
      refine ⟨0, Nat.zero_le _, rfl, (Below.refl _ _).alloc (Nat.le_refl _) _, 0, .slice none 0 0, .slice none 0 0, [], [], Nat.le_refl _, ⟨Nat.le_refl _, heap_alloc_new w _, rfl, rfl, World.ownsRow_nil _ _ _ _, World.ownsRow_nil _ _ _ _, (fun x hx => by cases hx), fun _ => ⟨rfl, rfl⟩⟩⟩
    case round =>
      obtain ⟨k, hk, rfl, hbel, m, vs, ss, M, ns, hmk, hT⟩ := hrel
      by_cases hkl : k < len
      · obtain ⟨b, off, rfl, hbw, hc⟩ := hA (by omega)
        obtain ⟨x, y, z, hx, hy, hz⟩ := hc k hkl
        have gx : wr.cell? ⟨b, off + k * 3, none⟩ = some (.int .i64 x) := (hbel.cell (p := ⟨b, off + k * 3, none⟩) hbw).trans hx
        have gy : wr.cell? ⟨b, off + k * 3 + 1, none⟩ = some (.int .i64 y) := (hbel.cell (p := ⟨b, off + k * 3 + 1, none⟩) hbw).trans hy
        have gz : wr.cell? ⟨b, off + k * 3 + 1 + 1, none⟩ = some (.string z) := (hbel.cell (p := ⟨b, off + k * 3 + 1 + 1, none⟩) hbw).trans hz
        have b2 : (k : Int) < (len : Int) := by omega
        clear hc hA hx hy hz
        have hsz := hbel.size
        go_wp2_with fail
        refine (number _ w.heap.size w.heap.size m vs ss M ns (hT.below ((Below.refl _ _).alloc (Nat.le_refl _) _)) (by omega) (by simp; omega) x y z).mono ?_
        rintro e w1 ⟨⟨v, rfl⟩, ⟨m', vs', ss', M', ns', hm', hT'⟩, hb1⟩
        have hbn : Below w.heap.size w w1 := (hbel.alloc hsz _).trans hb1
        clear hT hb1 hbel
        go_wp2
        go_roundw
        case rel => exact ⟨k + 1, by omega, by go_num, hbn, m', vs', ss', M', ns', by omega, hT'⟩
        case measure => simp [intOf]; omega
      · clear hA
        have hsz := hbel.size
        obtain ⟨av, cv, hvs, _⟩ := ownsRow_slice hT.rowV
        subst hvs
        have ltb := lt_of_heap hT.blk
        have q1 : wr.cell? ⟨w.heap.size, 1, none⟩ = some (.slice av m cv) := by simp [World.cell?, hT.blk]
        go_wp2_with (go_at_call 20; refine (len20 _ m cv av _ (by simp [q1, World.cell?_alloc_some])).mono ?_; rintro e w' ⟨rfl, rfl⟩)
        refine (newState _ (wr.heap.size + 1) wr.heap.size w.heap.size n m av cv (by omega) (by omega) ?c0 ?c3 ?cs ?ct).mono ?_
        case c0 => rw [World.cell?_alloc_at _ _ _ _ (by simp)]; rfl
        case c3 => rw [World.cell?_alloc_at _ _ _ _ (by simp)]; rfl
        case cs => rw [World.cell?_alloc_past _ _ _ (by simp), World.cell?_alloc_at _ _ _ _ rfl]; rfl
        case ct => rw [World.cell?_alloc_past _ _ _ (by simp; omega), World.cell?_alloc_past _ _ _ ltb]; exact q1
        rintro e ws ⟨sb, pb, fb, hb, db, nb, rb, rfl, hP⟩
        have hbs : Below w.heap.size w ws := ((hbel.alloc hsz _).alloc (by simp; omega) _).trans (hP.bel.mono (by simp; omega))
        have tg : ws.cell? ⟨w.heap.size, 1, none⟩ = some (.slice av m cv) := by
          rw [hP.bel.cell (p := ⟨w.heap.size, 1, none⟩) (by simp; omega), World.cell?_alloc_past _ _ _ (by simp; omega), World.cell?_alloc_past _ _ _ ltb]; exact q1
        have s2 : ws.cell? ⟨sb, 2, none⟩ = some (sl pb n) := by simp [World.cell?, hP.blk]
        clear hT q1 hbel tg
        by_cases hn0 : n = 0
        · subst hn0
          go_wp2
          go_ret
          exact ⟨rfl, hbs⟩
        · have e0 : ((n : Int) == 0) = false := by simpa using hn0
          by_cases hm0 : m = 0
          · subst hm0
            go_wp2
            go_ret
            exact ⟨rfl, hbs⟩
          · have e1 : ((m : Int) == 0) = false := by simpa using hm0
            have hnp : 0 < (n : Int) := by omega
            have hmp : 0 < (m : Int) := by omega
            obtain ⟨qk, hqk⟩ : ∃ qk : Nat, (pk : Int) % (n : Int) = (qk : Int) := ⟨pk % n, by simp⟩
            have hqn : qk < n := by
              have := Int.emod_lt_of_pos (pk : Int) hnp
              omega
            have hqn' : (qk : Int) < (n : Int) := by omega
            have lsb := lt_of_heap hP.blk
            obtain ⟨cur, hcur, _⟩ := hP.shp
            have lpb := lt_of_heap hcur
            obtain ⟨ch, hch, _⟩ := hP.held qk hqn
            have x0 : ws.cell? ⟨pb, qk * 4, none⟩ = some (sl (hb qk) m) := hP.p0 qk hqn
            have x1 : ws.cell? ⟨hb qk, 0, none⟩ = some (.int .i64 0) := (hP.held qk hqn).cell (by omega)
            have x2 : ws.frozen? ⟨hb qk, 0, none⟩ = false := (hP.held qk hqn).frozen 0
            have d0 : hb qk ≠ sb := fun e => by rw [e, hP.blk] at hch; simp at hch
            have d1 : hb qk ≠ pb := fun e => by rw [e, hcur] at hch; simp at hch
            have hbn : Below w.heap.size w (ws.setCell ⟨hb qk, 0, none⟩ (.int .i64 1)) := hbs.setCell (Nat.le_trans (by simp; omega) (hP.lo.2.2.2 qk hqn)) _
            have hi0 : ∀ i, i < n → i ≠ qk → hb qk ≠ hb i := fun i hi hne => by
              rcases Nat.lt_or_gt_of_ne hne with h | h
              · have := hP.inj i qk h hqn; omega
              · have := hP.inj qk i h hi; omega
            have F2 : Hid ((ws.setCell ⟨hb qk, 0, none⟩ (.int .i64 1)).cell? ⟨sb, 2, none⟩ = some (sl pb n)) := by
              show _ = _
              rw [World.cell?_setCell_far _ _ _ _ d0]; exact s2
            have F0 : Hid (∀ i, i < n → (ws.setCell ⟨hb qk, 0, none⟩ (.int .i64 1)).cell? ⟨pb, i * 4, none⟩ = some (sl (hb i) m)) := fun i hi => by
              rw [World.cell?_setCell_far _ _ _ _ d1]; exact hP.p0 i hi
            have F1 : Hid (∀ i, i < n → i ≠ qk → (ws.setCell ⟨hb qk, 0, none⟩ (.int .i64 1)).cell? ⟨hb i, 0, none⟩ = some (.int .i64 0)) := fun i hi hne => by
              rw [World.cell?_setCell_far _ _ _ _ (hi0 i hi hne)]; exact (hP.held i hi).cell (by omega)
            have HB : Hid (Below w.heap.size w (ws.setCell ⟨hb qk, 0, none⟩ (.int .i64 1))) := hbn
            clear hbn hi0
            go_wp2
            rw [hqk]
            clear hqk s2 x0 x1 x2 d0 d1 hcur hch hP hbs
            generalize ws.setCell ⟨hb qk, 0, none⟩ (.int .i64 1) = wz at *
            go_loop [15] (fun c => ∃ i : Nat, i ≤ n ∧ c = .int .i64 i) (fun c => n - (intOf c).toNat)
            case atStart => exact ⟨0, Nat.zero_le _, rfl⟩
            case round =>
              obtain ⟨i, hi, rfl⟩ := hrel
              by_cases hin : i < n
              · have b3 : (i : Int) < (n : Int) := by omega
                by_cases hiq : i = qk
                · have b4 : ((i : Int) == (qk : Int)) = true := by simp [hiq]
                  clear hiq
                  go_wp2
                  go_round
                  case rel => exact ⟨i + 1, by omega, by go_num⟩
                  case measure => simp [intOf]; omega
                · have b4 : ((i : Int) == (qk : Int)) = false := by simp; omega
                  have f2 := F2.out
                  have f0 := F0.out i hin
                  have f1 := F1.out i hin hiq
                  clear hiq
                  go_wp2
                  go_round
                  case rel => exact ⟨i + 1, by omega, by go_num⟩
                  case measure => simp [intOf]; omega
              · go_wp2
                go_ret
                exact ⟨rfl, HB.out⟩
end Go.Proofs.Ybulkvuk
