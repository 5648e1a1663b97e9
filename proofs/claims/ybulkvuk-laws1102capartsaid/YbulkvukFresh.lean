import Derived.Test.YbulkvukNumber
import Derived.Test.YbulkvukNew
import Derived.WalkSpells
import Derived.LaidEqlPtr
namespace Go.Proofs.Ybulkvuk
open Go.RowKit
set_option linter.unusedVariables false

theorem neq67 (w : World) (a : Addr) : (binOp .neq 67 (.pointer (some a)) (.pointer (some a))).run Yba.prog w = .ok (.bool false) w := by
  obtain ⟨j, hj⟩ : ∃ j, Yba.prog.info? 71 = some j := Option.isSome_iff_exists.1 (by kernel_rfl)
  have h : ∀ d : Nat, (Op.equalIn (d + 1) 67 (.pointer (some a)) (.pointer (some a))).run Yba.prog w = .ok true w := fun d => by
    simp [Op.equalIn, run_underlying Yba.underlying67, sizeOf, typeInfo, hj, run_sameAddr_same]
  simp only [binOp]
  simp [Op.equal, Op.maxDepth, h 9999]

theorem len20 (tb m cv : Nat) (av : Option Addr) (w : World) (h : w.cell? ⟨tb, 1, none⟩ = some (.slice av m cv)) :
    Calls Yba.prog 20 #[.pointer (some ⟨tb, 0, none⟩)] w fun e w' => e = .returned (.int .i64 m) ∧ w = w' := by
  go_enter Yba.func20, Yba.ntmps20
  go_wp2
  go_ret
  exact ⟨rfl, rfl⟩

set_option maxRecDepth 100000 in
set_option maxHeartbeats 2000000 in
theorem fresh_walk (a0 : Int) (h0 : 0 ≤ a0) (h1 : a0 ≤ 255) (ad : Option Addr) (len cap : Nat) (hl : len ≤ 9223372036854775807) (w : World)
    (hA : 0 < len → ∃ b off, ad = some ⟨b, off, none⟩ ∧ b < w.heap.size ∧ ∀ j, j < len → ∃ (x y : Int) (z : ByteArray), w.cell? ⟨b, off + j * 3, none⟩ = some (.int .i64 x) ∧ w.cell? ⟨b, off + j * 3 + 1, none⟩ = some (.int .i64 y) ∧ w.cell? ⟨b, off + j * 3 + 1 + 1, none⟩ = some (.string z)) :
    Calls Yba.prog 5 #[.int .u8 a0, .slice ad len cap] w fun e w' => e = .returned (.bool true) ∧ Below w.heap.size w w' := by
  by_cases hbig : 256 < len
  · have b1 : (256 : Int) < (len : Int) := by omega
    clear hA
    go_enter Yba.func5, Yba.ntmps5
    go_wp2
    go_ret
    exact ⟨rfl, Below.refl _ _⟩
  · obtain ⟨n, rfl⟩ := Int.eq_ofNat_of_zero_le h0
    have b1 : ¬ (256 : Int) < (len : Int) := by omega
    go_enter Yba.func5, Yba.ntmps5
    go_wp2_with (go_at_call 17; go_in)
    go_loopw [23] (fun c wr => ∃ k : Nat, k ≤ len ∧ c = .int .i64 k ∧ Below w.heap.size w wr ∧ ∃ m vs ss M ns, m ≤ k ∧ Tab wr w.heap.size w.heap.size m vs ss M ns) (fun c _ => len - (intOf c).toNat)
    case atStart =>
      refine ⟨0, Nat.zero_le _, rfl, (Below.refl _ _).alloc (Nat.le_refl _) _, 0, .slice none 0 0, .slice none 0 0, [], [], Nat.le_refl _, ⟨Nat.le_refl _, heap_alloc_new w _, rfl, rfl, World.ownsRow_nil _ _ _ _, World.ownsRow_nil _ _ _ _, (fun x hx => by cases hx), fun _ => ⟨rfl, rfl⟩⟩⟩
    case round =>
      obtain ⟨k, hk, rfl, hbel, m, vs, ss, M, ns, hmk, hT⟩ := hrel
      by_cases hkl : k < len
      · obtain ⟨b, off, rfl, hbw, hc⟩ := hA (by omega)
        obtain ⟨x, y, z, hx, hy, hz⟩ := hc k hkl
        have gx : wr.cell? ⟨b, off + k * 3, none⟩ = some (.int .i64 x) := (hbel.cell (p := ⟨b, off + k * 3, none⟩) hbw).trans hx
        have gy : wr.cell? ⟨b, off + k * 3 + 1, none⟩ = some (.int .i64 y) := (hbel.cell (p := ⟨b, off + k * 3 + 1, none⟩) hbw).trans hy
        have gz : wr.cell? ⟨b, off + k * 3 + 1 + 1, none⟩ = some (.string z) := (hbel.cell (p := ⟨b, off + k * 3 + 1 + 1, none⟩) hbw).trans hz
        have b2 : (k : Int) < (len : Int) := by omega
        clear hc hA hx hy hz
        have hsz := hbel.size
        go_wp2_with fail
        refine (number _ w.heap.size w.heap.size m vs ss M ns (hT.below ((Below.refl _ _).alloc (Nat.le_refl _) _)) (by omega) (by simp; omega) x y z).mono ?_
        rintro e w1 ⟨⟨v, rfl⟩, ⟨m', vs', ss', M', ns', hm', hT'⟩, hb1⟩
        have hbn : Below w.heap.size w w1 := (hbel.alloc hsz _).trans hb1
        clear hT hb1 hbel
        go_wp2
        go_roundw
        case rel => exact ⟨k + 1, by omega, by go_num, hbn, m', vs', ss', M', ns', by omega, hT'⟩
        case measure => simp [intOf]; omega
      · clear hA
        have hsz := hbel.size
        obtain ⟨av, cv, hvs, _⟩ := ownsRow_slice hT.rowV
        subst hvs
        have ltb := lt_of_heap hT.blk
        have q1 : wr.cell? ⟨w.heap.size, 1, none⟩ = some (.slice av m cv) := by simp [World.cell?, hT.blk]
        go_wp2_with (go_at_call 20; refine (len20 _ m cv av _ (by simp [q1, World.cell?_alloc_some])).mono ?_; rintro e w' ⟨rfl, rfl⟩)
        refine (newState _ (wr.heap.size + 1) wr.heap.size w.heap.size n m av cv (by omega) (by omega) ?c0 ?c3 ?cs ?ct).mono ?_
        case c0 => rw [World.cell?_alloc_at _ _ _ _ (by simp)]; rfl
        case c3 => rw [World.cell?_alloc_at _ _ _ _ (by simp)]; rfl
        case cs => rw [World.cell?_alloc_past _ _ _ (by simp), World.cell?_alloc_at _ _ _ _ rfl]; rfl
        case ct => rw [World.cell?_alloc_past _ _ _ (by simp; omega), World.cell?_alloc_past _ _ _ ltb]; exact q1
        rintro e ws ⟨sb, pb, fb, hb, db, nb, rb, rfl, hP⟩
        have hbs : Below w.heap.size w ws := ((hbel.alloc hsz _).alloc (by simp; omega) _).trans (hP.bel.mono (by simp; omega))
        have g1 : ws.cell? ⟨w.heap.size, 1, none⟩ = some (.slice av m cv) := by
          rw [hP.bel.cell (p := ⟨w.heap.size, 1, none⟩) (by simp; omega), World.cell?_alloc_past _ _ _ (by simp; omega), World.cell?_alloc_past _ _ _ ltb]; exact q1
        have s0 : ws.cell? ⟨sb, 0, none⟩ = some (.pointer (some ⟨wr.heap.size + 1, 0, none⟩)) := by simp [World.cell?, hP.blk]
        have s1 : ws.cell? ⟨sb, 1, none⟩ = some (.int .i64 0) := by simp [World.cell?, hP.blk]
        have s2 : ws.cell? ⟨sb, 2, none⟩ = some (sl pb n) := by simp [World.cell?, hP.blk]
        have s3 : ws.cell? ⟨sb, 3, none⟩ = some (sl fb n) := by simp [World.cell?, hP.blk]
        have s4 : ws.cell? ⟨sb, 4, none⟩ = some (.slice none 0 0) := by simp [World.cell?, hP.blk]
        have s5 : ws.cell? ⟨sb, 5, none⟩ = some (.int .i64 0) := by simp [World.cell?, hP.blk]
        have ne67 := neq67
        clear hT q1 hbel
        go_wp2_with (go_at_call 20; refine (len20 _ m cv av _ g1).mono ?_; rintro e w' ⟨rfl, rfl⟩)
        clear ne67 g1 s0 s1 s4 s5
        go_loopw [12] (fun c wx => ∃ i : Nat, i ≤ n ∧ c = .int .i64 i ∧ Below ws.heap.size ws wx) (fun c _ => n - (intOf c).toNat)
        case atStart => exact ⟨0, Nat.zero_le _, rfl, Below.refl _ _⟩
        case round =>
          obtain ⟨i, hi, rfl, hbx⟩ := hrel
          have hszx := hbx.size
          by_cases hin : i < n
          · have b3 : (i : Int) < (n : Int) := by omega
            have lsb := lt_of_heap hP.blk
            obtain ⟨cur, hcur, _⟩ := hP.shp
            have lpb := lt_of_heap hcur
            have x2 : wr.cell? ⟨sb, 2, none⟩ = some (sl pb n) := (hbx.cell (p := ⟨sb, 2, none⟩) lsb).trans s2
            have x3 : wr.cell? ⟨sb, 3, none⟩ = some (sl fb n) := (hbx.cell (p := ⟨sb, 3, none⟩) lsb).trans s3
            have f0 : wr.cell? ⟨fb, i, none⟩ = some (.bool false) := (hbx.cell (p := ⟨fb, i, none⟩) hP.fl.lt).trans (hP.fl.cell hin)
            have y0 : wr.cell? ⟨pb, i * 4, none⟩ = some (sl (hb i) m) := (hbx.cell (p := ⟨pb, i * 4, none⟩) lpb).trans (hP.p0 i hin)
            have y1 : wr.cell? ⟨pb, i * 4 + 1, none⟩ = some (sl (db i) m) := (hbx.cell (p := ⟨pb, i * 4 + 1, none⟩) lpb).trans (hP.p1 i hin)
            have y2 : wr.cell? ⟨pb, i * 4 + 1 + 1, none⟩ = some (sl (nb i) m) := (hbx.cell (p := ⟨pb, i * 4 + 1 + 1, none⟩) lpb).trans (hP.p2 i hin)
            have y3 : wr.cell? ⟨pb, i * 4 + 1 + 1 + 1, none⟩ = some (sl (rb i) m) := (hbx.cell (p := ⟨pb, i * 4 + 1 + 1 + 1, none⟩) lpb).trans (hP.p3 i hin)
            have lh := (hP.held i hin).lt
            have ld := (hP.deli i hin).lt
            have ln := (hP.send i hin).lt
            have lr := (hP.dirc i hin).lt
            have c0 : ∀ j, j < m → wr.cell? ⟨hb i, j, none⟩ = some (.int .i64 0) := fun j hj => (hbx.cell (p := ⟨hb i, j, none⟩) lh).trans ((hP.held i hin).cell hj)
            have c1 : ∀ j, j < m → wr.cell? ⟨db i, j, none⟩ = some (.bool false) := fun j hj => (hbx.cell (p := ⟨db i, j, none⟩) ld).trans ((hP.deli i hin).cell hj)
            have c2 : ∀ j, j < m → wr.cell? ⟨nb i, j, none⟩ = some (.int .i64 0) := fun j hj => (hbx.cell (p := ⟨nb i, j, none⟩) ln).trans ((hP.send i hin).cell hj)
            have c3 : ∀ j, j < m → wr.cell? ⟨rb i, j, none⟩ = some (.bool false) := fun j hj => (hbx.cell (p := ⟨rb i, j, none⟩) lr).trans ((hP.dirc i hin).cell hj)
            have k0 : hb i < wr.heap.size := by omega
            have k1 : db i < wr.heap.size := by omega
            have k2 : nb i < wr.heap.size := by omega
            have k3 : rb i < wr.heap.size := by omega
            have C0 : Hid _ := c0
            have C1 : Hid _ := c1
            have C2 : Hid _ := c2
            have C3 : Hid _ := c3
            clear c0 c1 c2 c3 hcur s2 s3
            go_wp2
            go_loop [14] (fun c => ∃ j : Nat, j ≤ m ∧ c = .int .i64 j) (fun c => m - (intOf c).toNat)
            case atStart => exact ⟨0, Nat.zero_le _, rfl⟩
            case round =>
              obtain ⟨j, hj, rfl⟩ := hrel
              by_cases hjm : j < m
              · have b4 : (j : Int) < (m : Int) := by omega
                have d0 := C0.out j hjm
                have d1 := C1.out j hjm
                have d2 := C2.out j hjm
                have d3 := C3.out j hjm
                go_wp2
                go_round
                case rel => exact ⟨j + 1, by omega, by go_num⟩
                case measure => simp [intOf]; omega
              · go_wp2
                go_roundw
                case rel => exact ⟨i + 1, by omega, by go_num, hbx.alloc hszx _⟩
                case measure => simp [intOf]; omega
          · go_wp2
            go_ret
            exact ⟨rfl, hbs.trans (hbx.mono hbs.size)⟩
end Go.Proofs.Ybulkvuk
