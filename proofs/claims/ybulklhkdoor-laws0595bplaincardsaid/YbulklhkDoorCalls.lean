/-
  SEAT b0595aD: THE CALLEES ON THE WAY OF LawS0595BPlain BY THEIR CONTRACTS: runStart (9), run (6), runPoints (4), Float64bits (8), zzs0595bsame (5).
-/
import Derived.Test.YbulklhkDoorRows
import Derived.WalkKit
import Derived.ProofKit
import Derived.WalkLawsBesides
import Derived.Deep.QuietTactic
import Derived.BigQuiet
import Derived.Laws.Externs
import Derived.WalkSmall
namespace Go.Proofs.YbulklhkDoor
open Go.RowKit

/-- math.Float64bits, in place. -/
theorem bits_run (x : Nat) (w : World) : (callFunc 8 #[.float .f64 x]).run Ybad.prog w = .ok (.value (.int .u64 x)) w :=
  run_callFunc_extern Ybad.func8 (by kernel_rfl) (by kernel_rfl) (by kernel_rfl) (e := Extern.MathFloatBits.float64bits) (by kernel_rfl) #[.float .f64 x] w

set_option maxHeartbeats 400000 in
theorem start_zero (L : Addr) (w : World) : Calls Ybad.prog 9 #[.pointer (some L), .int .i64 0] w fun e w' => e = .returned (.int .i32 0) ∧ w' = w := by
  go_enter Ybad.func9, Ybad.ntmps9
  go_wp2
  go_ret
  exact ⟨rfl, rfl⟩

set_option maxHeartbeats 400000 in
theorem start_pos (L R nr cr i : Nat) (st : Int) (w : World) (hi : 0 < i) (hin : i ≤ nr) (hnr : nr ≤ 1024) (hL : w.cell? ⟨L, 0, none⟩ = some (.slice (some ⟨R, 0, none⟩) nr cr))
    (hs : w.cell? ⟨R, (i - 1) * 2 + 1, none⟩ = some (.int .i32 st)) : Calls Ybad.prog 9 #[.pointer (some ⟨L, 0, none⟩), .int .i64 i] w fun e w' => e = .returned (.int .i32 st) ∧ w' = w := by
  have h0 : ((i : Int) == 0) = false := by simp; omega
  go_enter Ybad.func9, Ybad.ntmps9
  go_wp2
  go_ret
  exact ⟨rfl, rfl⟩

/-- Where run i starts: 0 at the first run, else the end of the run before. -/
def StartsAt (w : World) (R i : Nat) (st : Nat) : Prop := (i = 0 ∧ st = 0) ∨ (0 < i ∧ w.cell? ⟨R, (i - 1) * 2 + 1, none⟩ = some (.int .i32 (st : Int)))

theorem start_any (L R nr cr i st : Nat) (w : World) (hin : i ≤ nr) (hnr : nr ≤ 1024) (hL : w.cell? ⟨L, 0, none⟩ = some (.slice (some ⟨R, 0, none⟩) nr cr)) (hs : StartsAt w R i st) :
    Calls Ybad.prog 9 #[.pointer (some ⟨L, 0, none⟩), .int .i64 i] w fun e w' => e = .returned (.int .i32 (st : Int)) ∧ w' = w := by
  rcases hs with ⟨rfl, rfl⟩ | ⟨h0, h1⟩
  · exact start_zero _ w
  · exact start_pos L R nr cr i st w h0 hin hnr hL h1

/-- The address of 'points[st:en:en]', where there is an element at all. -/
def CutAt (pa ao : Option Addr) (st m : Nat) : Prop := 0 < m → ao = pa.map (·.add (st * 2))
theorem cutAt_none (pa ao : Option Addr) (st : Nat) : CutAt pa ao st 0 := fun k => by omega
theorem cutAt_some (pa : Option Addr) (st m : Nat) : CutAt pa (pa.map (·.add (st * 2))) st m := fun _ => rfl

set_option maxHeartbeats 400000 in
theorem run_any (L R nr cr i st en m np cp : Nat) (pa : Option Addr) (w : World) (hin : i < nr) (hnr : nr ≤ 1024) (hL : w.cell? ⟨L, 0, none⟩ = some (.slice (some ⟨R, 0, none⟩) nr cr)) (hP : w.cell? ⟨L, 1, none⟩ = some (.slice pa np cp))
    (hs : StartsAt w R i st) (he : w.cell? ⟨R, i * 2 + 1, none⟩ = some (.int .i32 (en : Int))) (hse : en = st + m) (hen : en ≤ cp) :
    Calls Ybad.prog 6 #[.pointer (some ⟨L, 0, none⟩), .int .i64 i] w fun e w' => ∃ ao, e = .returned (.slice ao m m) ∧ CutAt pa ao st m ∧ ∃ n, w' = w.drewN n := by
  have HS : Hid (StartsAt w R i st) := hs
  have hle : st ≤ en := by omega
  have HM : Hid (en - st = m) := by show en - st = m; omega
  clear hs hse
  go_enter Ybad.func6, Ybad.ntmps6
  go_wp2
  go_quiet ((go_at_call 9; exact Calls.quiet_of_same (start_any _ R nr cr _ st _ (by omega) (by omega) (by simpa using hL) (by have h := HS.out; unfold StartsAt at h ⊢; simpa using h))))
  rw [HM.out]
  by_cases h : en = st
  · obtain rfl : m = 0 := by have := HM.out; omega
    go_wp2
    go_ret
    exact ⟨_, rfl, cutAt_none _ _ _, nq, rfl⟩
  · go_wp2
    go_ret
    exact ⟨_, rfl, cutAt_some _ _ _, nq, rfl⟩

set_option maxHeartbeats 400000 in
theorem runPoints_any (L R nr cr i st en m np cp : Nat) (pa : Option Addr) (s r : Value) (w : World) (hin : i < nr) (hnr : nr ≤ 1024) (hL : w.cell? ⟨L, 0, none⟩ = some (.slice (some ⟨R, 0, none⟩) nr cr)) (hP : w.cell? ⟨L, 1, none⟩ = some (.slice pa np cp))
    (hK : w.cell? ⟨L, 2, none⟩ = some (.pointer none)) (hs : StartsAt w R i st) (he : w.cell? ⟨R, i * 2 + 1, none⟩ = some (.int .i32 (en : Int))) (hse : en = st + m) (hen : en ≤ cp) :
    Calls Ybad.prog 4 #[.pointer (some ⟨L, 0, none⟩), .int .i64 i, s, r] w fun e w' => ∃ ao, e = .returned (.slice ao m m) ∧ CutAt pa ao st m ∧ ∃ n, w' = w.drewN n := by
  have HS : Hid (StartsAt w R i st) := hs
  have HM : Hid (en = st + m) := hse
  clear hs hse
  go_enter Ybad.func4, Ybad.ntmps4
  go_wp2_with (go_at_call 6; refine (run_any L R nr cr i st en m np cp pa _ hin hnr hL hP HS.out he HM.out hen).mono ?_; rintro e w' ⟨ao, rfl, hao, n, rfl⟩)
  go_ret
  exact ⟨_, rfl, hao, n, rfl⟩

set_option maxHeartbeats 400000 in
theorem same_any (t : Int) (x : Nat) (w : World) : Calls Ybad.prog 5 #[.agg #[.int .i64 t, .float .f64 x], .agg #[.int .i64 t, .float .f64 x]] w fun e w' => e = .returned (.bool true) ∧ Below w.heap.size w w' := by
  have hb := bits_run x
  have ht : (t == t) = true := by simp
  go_enter Ybad.func5, Ybad.ntmps5
  go_wp2
  go_quiet (fail)
  go_wp2
  go_ret
  exact ⟨rfl, below_drewN (((Below.refl _ _).alloc (Nat.le_refl _) _).alloc (by simp) _) nq⟩
end Go.Proofs.YbulklhkDoor
