/-
  SEAT b0595aD: THE WALK OF LawS0595BPlain.
-/
import Derived.Test.YbulklhkDoorCalls
import Derived.Test.YbulklhkDoorBuilt
namespace Go.Proofs.YbulklhkDoor
open Go.RowKit

theorem Ybad.info34 : (Ybad.prog.info? 34).map (fun i => (i.zero, i.size, i.bytes)) = some (some (.agg #[.int .i64 0, .float .f64 0]), 2, 16) := by kernel_rfl
theorem Ybad.info36 : (Ybad.prog.info? 36).map (fun i => (i.zero, i.size, i.bytes)) = some (some (.agg #[.int .i32 0, .int .i32 0]), 2, 8) := by kernel_rfl

/-- The float of point n. -/
def vf (lv : Nat) (vs : Nat → Int) (n : Nat) : Nat := if 0 < lv then floatOfInt .f64 (vs (n % lv)) else 0
theorem vf_some {lv : Nat} (vs : Nat → Int) (n : Nat) (h : 0 < lv) : vf lv vs n = floatOfInt .f64 (vs (n % lv)) := if_pos h
theorem vf_none {lv : Nat} (vs : Nat → Int) (n : Nat) (h : ¬ 0 < lv) : vf lv vs n = 0 := if_neg h

/-- A new block of two cells. -/
theorem two_new (w : World) (a b : Value) (t : Nat) : ∀ j u, [a, b][j]? = some u → (w.alloc (.cells #[a, b] t)).cell? ((⟨w.heap.size, 0, none⟩ : Addr).add j) = some u := by
  intro j u hj
  match j, hj with
  | 0, hj => simp at hj; subst hj; simp [Addr.add]
  | 1, hj => simp at hj; subst hj; simp [Addr.add]
theorem two_one (a b : Value) (ha : a.oneCell' = true) (hb : b.oneCell' = true) : ∀ u ∈ [a, b], u.oneCell' = true := by
  intro u hu
  simp at hu
  rcases hu with rfl | rfl
  · exact ha
  · exact hb

set_option maxHeartbeats 1600000 in
set_option maxRecDepth 100000 in
theorem plain_walk (sa va : Option Addr) (len cap lv cv : Nat) (sel base : Int) (sz : Nat → Nat) (vs : Nat → Int) (w : World) (hlen : len ≤ 1024) (hpos : 0 < len) (hlv : lv ≤ 9223372036854775807)
    (hc : ∀ t, t < len → ∃ b off, sa = some ⟨b, off, none⟩ ∧ b < w.heap.size ∧ w.cell? ⟨b, off + t, none⟩ = some (.int .u8 (sz t : Int)))
    (hv : ∀ t, t < lv → ∃ b off, va = some ⟨b, off, none⟩ ∧ b < w.heap.size ∧ w.cell? ⟨b, off + t, none⟩ = some (.int .i8 (vs t)))
    (hsz : ∀ k, sz k ≤ 255) (hs0 : 0 ≤ sel) (hs1 : sel ≤ 18446744073709551615) (hb0 : -2147483648 ≤ base) (hb1 : base ≤ 2147483647) :
    Calls Ybad.prog 3 #[.slice sa len cap, .slice va lv cv, .int .u64 sel, .int .i32 base] w fun e w' => e = .returned (.bool true) ∧ Below w.heap.size w w' := by
  obtain ⟨i0, hi, hz0, hz1, hz2⟩ := info_parts Ybad.info34
  obtain ⟨j0, hj, hy0, hy1, hy2⟩ := info_parts Ybad.info36
  have h1 : ¬ (1024 : Int) < (len : Int) := by omega
  have h2 : ((len : Int) == 0) = false := by simp; omega
  go_enter Ybad.func3, Ybad.ntmps3
  go_wp2
  go_loopw [10, 11, 36] (fun p n i wr => ∃ (k : Nat) (ao : Option Addr) (cp : Nat) (ro : Option Addr) (cr : Nat), k ≤ len ∧ i = .int .i64 k ∧ n = .int .i64 (pre sz k : Int) ∧ p = .slice ao (pre sz k) cp ∧
      Lvl w wr (pre sz k) (ptCells base (vf lv vs) (pre sz k)) ao cp k (runCells sz k) ro cr)
    (fun _ _ i _ => len - (intOf i).toNat)
  case atStart => exact ⟨0, none, 0, none, 0, Nat.zero_le _, rfl, rfl, rfl, lvl_start w⟩
  case round =>
    obtain ⟨k, ao, cp, ro, cr, hk, rfl, rfl, rfl, hL⟩ := hrel
    have hpk := pre_le sz hsz k
    by_cases hlt : k < len
    · obtain ⟨b, off, ha, hbw, hck⟩ := hc k hlt
      have hcr : wr.cell? ⟨b, off + k, none⟩ = some (.int .u8 (sz k : Int)) := (hL.below.cell (by exact hbw)).trans hck
      have hszk := hsz k
      clear hck hc
      subst ha
      go_wp2
      go_loopw [10, 11, 14] (fun p n j wi => ∃ (m q : Nat) (ai : Option Addr) (ci : Nat), q ≤ sz k ∧ Hid (m = pre sz k + q) ∧ m ≤ 255 * k + 255 ∧ j = .int .i64 q ∧ n = .int .i64 m ∧ p = .slice ai m ci ∧
          Lvl w wi m (ptCells base (vf lv vs) m) ai ci k (runCells sz k) ro cr)
        (fun _ _ j _ => sz k - (intOf j).toNat)
      case atStart => exact ⟨pre sz k, 0, ao, cp, Nat.zero_le _, rfl, by omega, rfl, rfl, rfl, hL⟩
      case round =>
        obtain ⟨m, q, ai, ci, hq, HM, hm, rfl, rfl, rfl, hI⟩ := hrel
        clear hL hcr
        by_cases hqk : q < sz k
        · by_cases hlv0 : 0 < lv
          · obtain ⟨r, hr⟩ : ∃ r, r = m % lv := ⟨_, rfl⟩
            have hrl : r < lv := hr ▸ Nat.mod_lt _ hlv0
            have hmr : (m : Int) % (lv : Int) = (r : Int) := by rw [hr]; simp
            have HF : Hid (vf lv vs m = floatOfInt .f64 (vs r)) := by rw [hr]; exact vf_some vs m hlv0
            obtain ⟨vb, vo, hva, hvw, hvc⟩ := hv r hrl
            have hvr : wr.cell? ⟨vb, vo + r, none⟩ = some (.int .i8 (vs r)) := (hI.below.cell (by exact hvw)).trans hvc
            clear hvc hv hr
            subst hva
            have hsz1 := hI.size
            go_wp2_with (at_builtin; refine wpList_append_own _ rfl (.tmp 58) (.tmp 65) 27 rfl (w.heap.size + 1) 34 i0 _ 2 16 Ybad.underlying27 hi hz0 hz1 hz2 rfl (by decide) _ _ _ rfl (hI.pts.alloc _) ⟨wr.heap.size, 0, none⟩ 1 1 [.int .i64 (base + (m : Int)), .float .f64 (floatOfInt .f64 (vs r))] rfl rfl (two_new _ _ _ _) (two_one _ _ rfl rfl) (by unfold maxLen; omega) (by omega) (by simp; omega) ?_)
            intro v' w1 hown1 hgrow1 _
            obtain ⟨g, c, hv', hL1⟩ := hI.addPoint _ hown1 hgrow1
            have R : Lvl w w1 (m + 1) (ptCells base (vf lv vs) (m + 1)) (some ⟨g, 0, none⟩) c k (runCells sz k) ro cr := by rw [ptCells_succ, HF.out]; exact hL1
            clear hown1 hgrow1 hL1 hI
            rw [hv']
            go_wp2
            go_roundw
            case rel => exact ⟨m + 1, q + 1, some ⟨g, 0, none⟩, c, by omega, by have := HM.out; show _ = _; omega, by have := HM.out; omega, by go_num, by go_num, rfl, R⟩
            case measure => simp [intOf]; omega
          · have HF : Hid (vf lv vs m = 0) := vf_none vs m hlv0
            clear hv
            have hlv1 : ¬ (0 : Int) < (lv : Int) := by omega
            have hsz1 := hI.size
            go_wp2_with (at_builtin; refine wpList_append_own _ rfl (.tmp 58) (.tmp 65) 27 rfl (w.heap.size + 1) 34 i0 _ 2 16 Ybad.underlying27 hi hz0 hz1 hz2 rfl (by decide) _ _ _ rfl (hI.pts.alloc _) ⟨wr.heap.size, 0, none⟩ 1 1 [.int .i64 (base + (m : Int)), .float .f64 0] rfl rfl (two_new _ _ _ _) (two_one _ _ rfl rfl) (by unfold maxLen; omega) (by omega) (by simp; omega) ?_)
            intro v' w1 hown1 hgrow1 _
            obtain ⟨g, c, hv', hL1⟩ := hI.addPoint _ hown1 hgrow1
            have R : Lvl w w1 (m + 1) (ptCells base (vf lv vs) (m + 1)) (some ⟨g, 0, none⟩) c k (runCells sz k) ro cr := by rw [ptCells_succ, HF.out]; exact hL1
            clear hown1 hgrow1 hL1 hI
            rw [hv']
            go_wp2
            go_roundw
            case rel => exact ⟨m + 1, q + 1, some ⟨g, 0, none⟩, c, by omega, by have := HM.out; show _ = _; omega, by have := HM.out; omega, by go_num, by go_num, rfl, R⟩
            case measure => simp [intOf]; omega
        · obtain rfl : q = sz k := by omega
          have HP : Hid (m = pre sz (k + 1)) := HM
          clear HM hv
          have e0 := hI.c0
          have f0 := hI.f0
          have hsz1 := hI.size
          go_wp2_with (at_builtin; refine wpList_append_own _ rfl (.tmp 73) (.tmp 79) 26 rfl (w.heap.size + 1) 36 j0 _ 2 8 Ybad.underlying26 hj hy0 hy1 hy2 rfl (by decide) _ _ _ rfl (hI.runs.alloc _) ⟨wr.heap.size, 0, none⟩ 1 1 [.int .i32 (k : Int), .int .i32 (m : Int)] rfl rfl (two_new _ _ _ _) (two_one _ _ rfl rfl) (by unfold maxLen; omega) (by omega) (by simp; omega) ?_)
          intro v' w1 hown1 hgrow1 _
          obtain ⟨g, c, hv'⟩ := own_some hown1 (Nat.succ_pos _)
          rw [hv'] at hown1
          have g0 := (hI.grown_level _ hgrow1 0).1.trans e0
          have h0 := (hI.grown_level _ hgrow1 0).2.trans f0
          have R := hI.addRun _ hown1 hgrow1
          clear hown1 hgrow1 e0 f0 hI
          rw [hv']
          clear hv'
          go_wp2
          go_roundw
          have hmp := HP.out
          subst hmp
          case rel => exact ⟨k + 1, ai, ci, some ⟨g, 0, none⟩, c, by omega, by go_num, rfl, rfl, R⟩
          case measure => simp [intOf]; omega
    · obtain rfl : k = len := by omega
      obtain ⟨R, c', hro⟩ := own_some hL.runs hpos
      obtain rfl : ro = some ⟨R, 0, none⟩ := by simpa using congrArg (fun v => match v with | .slice a _ _ => a | _ => none) hro
      clear hro
      obtain ⟨i, hi1, hi2⟩ : ∃ i : Nat, sel % (k : Int) = (i : Int) ∧ i < k :=
        ⟨(sel % (k : Int)).toNat, by have := Int.emod_nonneg sel (show (k : Int) ≠ 0 by omega); omega, by have := Int.emod_lt_of_pos sel (show (0 : Int) < (k : Int) by omega); have := Int.emod_nonneg sel (show (k : Int) ≠ 0 by omega); omega⟩
      have e1 := hL.c1
      have f1 := hL.f1
      go_wp2
      have hF := hL.setPoints
      generalize wr.setCell ⟨w.heap.size, 1, none⟩ (Value.slice ao (pre sz k) cp) = w2 at hF ⊢
      clear hL e1 f1 hi hz0 hz1 hz2 hj hy0 hy1 hy2 i0 j0
      have hpi := pre_le sz hsz i
      go_loop [17, 18] (fun s j => ∃ q : Nat, q ≤ i ∧ j = .int .i64 q ∧ s = .int .i64 (pre sz q : Int)) (fun _ j => i - (intOf j).toNat)
      case atStart => exact ⟨0, Nat.zero_le _, rfl, rfl⟩
      case round =>
        obtain ⟨q, hq, rfl, rfl⟩ := hrel
        by_cases hqi : q < i
        · obtain ⟨b, off, ha, hbw, hck⟩ := hc q (by omega)
          have hcr : w2.cell? ⟨b, off + q, none⟩ = some (.int .u8 (sz q : Int)) := (hF.below.cell (by exact hbw)).trans hck
          have hszq := hsz q
          have hpq := pre_le sz hsz q
          clear hck hc hv
          subst ha
          go_wp2
          go_round
          case rel => exact ⟨q + 1, by omega, by go_num, by rw [pre_succ]; go_num⟩
          case measure => simp [intOf]; omega
        · obtain rfl : q = i := by omega
          obtain ⟨b, off, ha, hbw, hck⟩ := hc q hi2
          have hpm := pre_mono sz (q + 1) k (by omega)
          have hszq := hsz q
          clear hc hq hqi hk hlt
          subst ha
          go_wp2_with fail
          obtain ⟨w6, hw6⟩ : ∃ w6, w6 = ((w2.alloc (Obj.cells #[Value.int IntKind.i64 7, Value.float FloatKind.f64 4607182418800017408] 34)).alloc (Obj.cells #[Value.slice (some ⟨w2.heap.size, 0, none⟩) 1 1] 27)).alloc (Obj.cells Ybad.zeroCells45 45) := ⟨_, rfl⟩
          rw [← hw6]
          obtain ⟨hb6, hw6s, g0, g1, g2⟩ := scratch_world w2 _ _ _ _ w6 hw6
          have hF6 := hF.later hb6
          clear hw6 hF
          refine (runPoints_any w.heap.size R k cr q (pre sz q) (pre sz (q + 1)) (sz q) (pre sz k) cp ao _ _ w6 hi2 hlen hF6.c0 hF6.c1 hF6.c2 (hF6.starts q hi2) (hF6.ends q hi2) (pre_succ sz q) (Nat.le_trans hpm hF6.cap)).mono ?_
          rintro e w' ⟨ag, rfl, hcut, n, rfl⟩
          obtain ⟨w7, hw7⟩ : ∃ w7, w7 = w6.drewN n := ⟨_, rfl⟩
          have hb7 : Below w6.heap.size w6 w7 := by rw [hw7]; exact below_drewN (Below.refl _ _) n
          have hF7 := hF6.later hb7
          have k0 : w7.cell? ⟨w2.heap.size + 1, 0, none⟩ = some (.slice (some ⟨w2.heap.size, 0, none⟩) 1 1) := (hb7.cell (by show w2.heap.size + 1 < _; omega)).trans g0
          have k1 : w7.cell? ⟨w2.heap.size, 0, none⟩ = some (.int .i64 7) := (hb7.cell (by show w2.heap.size < _; omega)).trans g1
          have k2 : w7.cell? ⟨w2.heap.size, 1, none⟩ = some (.float .f64 4607182418800017408) := (hb7.cell (by show w2.heap.size < _; omega)).trans g2
          have hws : w2.heap.size + 1 < w7.heap.size := by have := hb7.size; omega
          have hck7 : w7.cell? ⟨b, off + q, none⟩ = some (.int .u8 (sz q : Int)) := (hF7.below.cell (by exact hbw)).trans hck
          rw [← hw7]
          clear hw7 hF6 hb7 hb6 hw6s g0 g1 g2 hck
          go_wp2
          have hfe : (FloatKind.f64.format.order 4607182418800017408 4607182418800017408 == some .eq) = true := by kernel_rfl
          go_loopw [22] (fun j wr => ∃ t : Nat, t ≤ sz q ∧ j = .int .i64 t ∧ Below w7.heap.size w7 wr) (fun j _ => sz q - (intOf j).toNat)
          case atStart => exact ⟨0, Nat.zero_le _, rfl, Below.refl _ _⟩
          case round =>
            obtain ⟨t, ht, rfl, hbel⟩ := hrel
            by_cases htq : t < sz q
            · obtain ⟨G, hao, p1, p2⟩ := (hF7.later hbel).point (pre sz q + t) (by rw [pre_succ] at hpm; omega)
              have hag : ag = some ⟨G, pre sz q * 2, none⟩ := by rw [hcut (by omega), hao, Option.map_some, Addr.add_lit, Nat.zero_add]
              have ea : (pre sz q + t) * 2 = pre sz q * 2 + t * 2 := by omega
              have eb : base + ((pre sz q + t : Nat) : Int) = base + ((pre sz q : Int) + (t : Int)) := by omega
              rw [ea, eb] at p1
              rw [ea] at p2
              clear ea eb hcut hao k0 k1 k2 hfe hck7
              subst hag
              by_cases hlv0 : 0 < lv
              · obtain ⟨r, hr⟩ : ∃ r, r = (pre sz q + t) % lv := ⟨_, rfl⟩
                have hrl : r < lv := hr ▸ Nat.mod_lt _ hlv0
                have hmr : ((pre sz q : Int) + (t : Int)) % (lv : Int) = (r : Int) := by rw [hr]; simp
                rw [vf_some vs _ hlv0, ← hr] at p2
                obtain ⟨vb, vo, hva, hvw, hvc⟩ := hv r hrl
                have hvr : wr.cell? ⟨vb, vo + r, none⟩ = some (.int .i8 (vs r)) := ((hF7.later hbel).below.cell (by exact hvw)).trans hvc
                clear hvc hv hr hF7
                subst hva
                go_wp2_with (go_at_call 5; refine (same_any _ _ _).mono ?_; rintro e w' ⟨rfl, hb'⟩)
                go_roundw
                case rel => exact ⟨t + 1, by omega, by go_num, hbel.trans (hb'.mono hbel.size)⟩
                case measure => simp [intOf]; omega
              · rw [vf_none vs _ hlv0] at p2
                have hlv1 : ¬ (0 : Int) < (lv : Int) := by omega
                clear hv hF7
                go_wp2_with (go_at_call 5; refine (same_any _ _ _).mono ?_; rintro e w' ⟨rfl, hb'⟩)
                go_roundw
                case rel => exact ⟨t + 1, by omega, by go_num, hbel.trans (hb'.mono hbel.size)⟩
                case measure => simp [intOf]; omega
            · have m0 := (hbel.cell (p := ⟨w2.heap.size + 1, 0, none⟩) (by exact hws)).trans k0
              have m1 := (hbel.cell (p := ⟨w2.heap.size, 0, none⟩) (by show w2.heap.size < _; omega)).trans k1
              have m2 := (hbel.cell (p := ⟨w2.heap.size, 1, none⟩) (by show w2.heap.size < _; omega)).trans k2
              have hend := (hF7.later hbel).below
              clear k0 k1 k2 hF7 hcut hck7 hv
              go_wp2
              go_ret
              exact ⟨rfl, hend⟩
end Go.Proofs.YbulklhkDoor
