/-
  SEAT b0595aD: THE LEVEL WHEN IT IS BUILT ('Built'): what runPoints asks of it, in whatever later world; what the points read as.
-/
import Derived.Test.YbulklhkDoorCalls
import Derived.Test.YbulklhkDoorParts
namespace Go.Proofs.YbulklhkDoor
open Go.RowKit

/-- THE LEVEL WHEN IT IS BUILT, in the world w2 (w: the world when the call began): the points and the runs in its fields, nothing packed. -/
structure Built (w w2 : World) (N : Nat) (pc : List Value) (ao : Option Addr) (cp nr : Nat) (rc : List Value) (R cr : Nat) : Prop where
  pts : w2.ownsRow (w.heap.size + 1) 34 2 (.slice ao N cp) N pc
  runs : w2.ownsRow (w.heap.size + 1) 36 2 (.slice (some ⟨R, 0, none⟩) nr cr) nr rc
  c0 : w2.cell? ⟨w.heap.size, 0, none⟩ = some (.slice (some ⟨R, 0, none⟩) nr cr)
  c1 : w2.cell? ⟨w.heap.size, 1, none⟩ = some (.slice ao N cp)
  c2 : w2.cell? ⟨w.heap.size, 2, none⟩ = some (.pointer none)
  below : Below w.heap.size w w2

section
variable {w wr w2 w3 : World} {N : Nat} {pc : List Value} {ao : Option Addr} {cp nr : Nat} {rc : List Value} {R cr : Nat}

/-- 'lv.points = pts'. -/
theorem Lvl.setPoints (h : Lvl w wr N pc ao cp nr rc (some ⟨R, 0, none⟩) cr) : Built w (wr.setCell ⟨w.heap.size, 1, none⟩ (.slice ao N cp)) N pc ao cp nr rc R cr where
  pts := ownsRow_setCell_below h.pts (Nat.lt_succ_self _) _
  runs := ownsRow_setCell_below h.runs (Nat.lt_succ_self _) _
  c0 := by rw [World.cell?_setCell_other _ _ _ _ (by simp)]; exact h.c0
  c1 := World.cell?_setCell_same _ _ _ h.c1
  c2 := by rw [World.cell?_setCell_other _ _ _ _ (by simp)]; exact h.c2
  below := h.below.setCell (Nat.le_refl _) _

theorem Built.size (h : Built w w2 N pc ao cp nr rc R cr) : w.heap.size < w2.heap.size := World.block_lt_of_cell? w2 _ h.c0

/-- Nothing of it turns while the world grows. -/
theorem Built.later (h : Built w w2 N pc ao cp nr rc R cr) (hb : Below w2.heap.size w2 w3) : Built w w3 N pc ao cp nr rc R cr where
  pts := own_below h.pts hb (Nat.le_refl _)
  runs := own_below h.runs hb (Nat.le_refl _)
  c0 := (hb.cell (by exact h.size)).trans h.c0
  c1 := (hb.cell (by exact h.size)).trans h.c1
  c2 := (hb.cell (by exact h.size)).trans h.c2
  below := h.below.trans (hb.mono (Nat.le_of_lt h.size))

theorem Built.cap (h : Built w w2 N pc ao cp nr rc R cr) : N ≤ cp := by
  rcases h.pts.2 with ⟨_, h0⟩ | ⟨g, c, cur, hv, _, _, hc, _⟩
  · omega
  · simp at hv
    omega

theorem Built.ends {sz : Nat → Nat} (h : Built w w2 N pc ao cp nr (runCells sz nr) R cr) (i : Nat) (hi : i < nr) : w2.cell? ⟨R, i * 2 + 1, none⟩ = some (.int .i32 (pre sz (i + 1) : Int)) := by
  rw [h.runs.cellAt (i * 2 + 1) (by omega)]
  exact runCells_at sz i nr hi

theorem Built.starts {sz : Nat → Nat} (h : Built w w2 N pc ao cp nr (runCells sz nr) R cr) (i : Nat) (hi : i < nr) : StartsAt w2 R i (pre sz i) := by
  cases i with
  | zero => exact .inl ⟨rfl, rfl⟩
  | succ i => exact .inr ⟨Nat.succ_pos _, h.ends i (by omega)⟩

theorem Built.point {base : Int} {vf : Nat → Nat} (h : Built w w2 N (ptCells base vf N) ao cp nr rc R cr) (n : Nat) (hn : n < N) :
    ∃ G, ao = some ⟨G, 0, none⟩ ∧ w2.cell? ⟨G, n * 2, none⟩ = some (.int .i64 (base + (n : Int))) ∧ w2.cell? ⟨G, n * 2 + 1, none⟩ = some (.float .f64 (vf n)) := by
  obtain ⟨G, c, hv⟩ := own_some h.pts (by omega)
  simp at hv
  obtain ⟨rfl, rfl⟩ := hv
  obtain ⟨h1, h2⟩ := ptCells_at base vf n N hn
  refine ⟨G, rfl, ?_, ?_⟩
  · rw [h.pts.cellAt (n * 2) (by omega)]; exact h1
  · rw [h.pts.cellAt (n * 2 + 1) (by omega)]; exact h2
end

/-- The three blocks that the law lays ahead of its call: scratch's one element, scratch itself, the room (of whatever cells). -/
theorem scratch_world (w2 : World) (a x : Value) (z : Array Value) (t : Nat) : ∀ w6, w6 = ((w2.alloc (.cells #[a, x] 34)).alloc (.cells #[.slice (some ⟨w2.heap.size, 0, none⟩) 1 1] 27)).alloc (.cells z t) →
    Below w2.heap.size w2 w6 ∧ w6.heap.size = w2.heap.size + 3 ∧ w6.cell? ⟨w2.heap.size + 1, 0, none⟩ = some (.slice (some ⟨w2.heap.size, 0, none⟩) 1 1) ∧ w6.cell? ⟨w2.heap.size, 0, none⟩ = some a ∧ w6.cell? ⟨w2.heap.size, 1, none⟩ = some x := by
  rintro w6 rfl
  refine ⟨(((Below.refl _ _).alloc (Nat.le_refl _) _).alloc (by simp) _).alloc (by simp; omega) _, by simp, ?_, ?_, ?_⟩
  · rw [World.cell?_alloc_past _ _ _ (by simp), World.cell?_alloc_at _ _ _ _ (by simp)]; rfl
  · rw [World.cell?_alloc_past _ _ _ (by simp; omega), World.cell?_alloc_past _ _ _ (by simp), World.cell?_alloc_at _ _ _ _ (by simp)]; rfl
  · rw [World.cell?_alloc_past _ _ _ (by simp; omega), World.cell?_alloc_past _ _ _ (by simp), World.cell?_alloc_at _ _ _ _ (by simp)]; rfl
end Go.Proofs.YbulklhkDoor
