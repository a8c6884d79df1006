/-
  SEAT b0595aD: PARTS OF THE WALK OF LawS0595BPlain, outside the walk: the sums of the runs' sizes; the cells of the points and of the runs; WHAT THE LEVEL HOLDS IN THE MIDDLE OF THE BUILD ('Lvl') and what each append and store does to it. Nothing of the dump.
-/
import Derived.WalkKit
import Derived.ProofKit
namespace Go.Proofs.YbulklhkDoor
open Go.RowKit

/-! ### Plain mathematics -/
/-- How many points the first k runs hold. -/
def pre (sz : Nat → Nat) : Nat → Nat
  | 0 => 0
  | k + 1 => pre sz k + sz k
theorem pre_succ (sz : Nat → Nat) (k : Nat) : pre sz (k + 1) = pre sz k + sz k := rfl
theorem pre_le (sz : Nat → Nat) (h : ∀ k, sz k ≤ 255) : ∀ k, pre sz k ≤ 255 * k
  | 0 => Nat.le_refl _
  | k + 1 => by have := pre_le sz h k; have := h k; rw [pre_succ]; omega
theorem pre_mono (sz : Nat → Nat) (i : Nat) : ∀ j, i ≤ j → pre sz i ≤ pre sz j
  | 0, h => by obtain rfl : i = 0 := by omega
               exact Nat.le_refl _
  | j + 1, h => by
    rcases Nat.lt_or_ge j i with h' | h'
    · obtain rfl : i = j + 1 := by omega
      exact Nat.le_refl _
    · have := pre_mono sz i j h'; rw [pre_succ]; omega

/-- The cells of the first n points. -/
def ptCells (base : Int) (vf : Nat → Nat) : Nat → List Value
  | 0 => []
  | n + 1 => ptCells base vf n ++ [.int .i64 (base + (n : Int)), .float .f64 (vf n)]
theorem ptCells_succ (base : Int) (vf : Nat → Nat) (n : Nat) : ptCells base vf (n + 1) = ptCells base vf n ++ [.int .i64 (base + (n : Int)), .float .f64 (vf n)] := rfl
theorem ptCells_length (base : Int) (vf : Nat → Nat) : ∀ n, (ptCells base vf n).length = n * 2
  | 0 => rfl
  | n + 1 => by rw [ptCells_succ, List.length_append, ptCells_length base vf n]; simp; omega
theorem ptCells_at (base : Int) (vf : Nat → Nat) (i : Nat) : ∀ n, i < n → (ptCells base vf n)[i * 2]? = some (.int .i64 (base + (i : Int))) ∧ (ptCells base vf n)[i * 2 + 1]? = some (.float .f64 (vf i))
  | 0, h => by omega
  | n + 1, h => by
    have hl := ptCells_length base vf n
    rw [ptCells_succ]
    rcases Nat.lt_or_ge i n with h' | h'
    · rw [List.getElem?_append_left (by omega), List.getElem?_append_left (by omega)]
      exact ptCells_at base vf i n h'
    · obtain rfl : i = n := by omega
      rw [List.getElem?_append_right (by omega), List.getElem?_append_right (by omega), hl]
      simp

/-- The cells of the first k runs: the number, and where the points end. -/
def runCells (sz : Nat → Nat) : Nat → List Value
  | 0 => []
  | k + 1 => runCells sz k ++ [.int .i32 (k : Int), .int .i32 (pre sz (k + 1) : Int)]
theorem runCells_succ (sz : Nat → Nat) (k : Nat) : runCells sz (k + 1) = runCells sz k ++ [.int .i32 (k : Int), .int .i32 (pre sz (k + 1) : Int)] := rfl
theorem runCells_length (sz : Nat → Nat) : ∀ n, (runCells sz n).length = n * 2
  | 0 => rfl
  | n + 1 => by rw [runCells_succ, List.length_append, runCells_length sz n]; simp; omega
theorem runCells_at (sz : Nat → Nat) (i : Nat) : ∀ n, i < n → (runCells sz n)[i * 2 + 1]? = some (.int .i32 (pre sz (i + 1) : Int))
  | 0, h => by omega
  | n + 1, h => by
    have hl := runCells_length sz n
    rw [runCells_succ]
    rcases Nat.lt_or_ge i n with h' | h'
    · rw [List.getElem?_append_left (by omega)]
      exact runCells_at sz i n h'
    · obtain rfl : i = n := by omega
      rw [List.getElem?_append_right (by omega), hl]
      simp

/-! ### Memory -/
/-- Two owned rows of different element types do not share a block. -/
theorem apart {w : World} {b1 b2 e1 e2 s1 s2 n1 n2 : Nat} {v1 v2 : Value} {x1 x2 : List Value} (hne : e1 ≠ e2) (h1 : w.ownsRow b1 e1 s1 v1 n1 x1) (h2 : w.ownsRow b2 e2 s2 v2 n2 x2) :
    v1.ownBlock = none ∨ v1.ownBlock ≠ v2.ownBlock := by
  rcases h1.2 with ⟨rfl, _⟩ | ⟨g, c, cur, rfl, _, hg, _⟩
  · exact .inl rfl
  · rcases h2.2 with ⟨rfl, _⟩ | ⟨g2, c2, cur2, rfl, _, hg2, _⟩
    · exact .inr (by simp [Value.ownBlock])
    · refine .inr fun e => ?_
      have e' : g = g2 := by simpa [Value.ownBlock] using e
      subst e'
      rw [hg] at hg2
      simp at hg2
      exact hne hg2.2

/-- An owned row that is not empty is no nil slice. -/
theorem own_some {w : World} {b e s n : Nat} {v : Value} {xs : List Value} (h : w.ownsRow b e s v n xs) (hn : 0 < n) : ∃ g c, v = .slice (some ⟨g, 0, none⟩) n c := by
  rcases h.2 with ⟨_, h0⟩ | ⟨g, c, _, rfl, _⟩
  · omega
  · exact ⟨g, c, rfl⟩

/-- What is owned is owned in a world that is the same below 'B', where the row's block lies below B. -/
theorem own_below {w w' : World} {b e s n B : Nat} {v : Value} {xs : List Value} (h : w.ownsRow b e s v n xs) (hb : Below B w w') (hB : w.heap.size ≤ B) : w'.ownsRow b e s v n xs := by
  refine ⟨h.1, ?_⟩
  rcases h.2 with h2 | ⟨g, c, cur, rfl, hbg, hg, r⟩
  · exact .inl h2
  · refine .inr ⟨g, c, cur, rfl, hbg, ?_, r⟩
    rw [hb.block g (Nat.lt_of_lt_of_le (Array.getElem?_eq_some_iff.1 hg).1 hB)]
    exact hg

/-- WHAT THE LEVEL HOLDS while it is built in the world wr (w: the world when the call began; the level's block is w.heap.size): np points with the cells pc in the local 'pts', nr runs with the cells rc in the field 'runs', no points, nothing packed. -/
structure Lvl (w wr : World) (np : Nat) (pc : List Value) (ao : Option Addr) (cp : Nat) (nr : Nat) (rc : List Value) (ro : Option Addr) (cr : Nat) : Prop where
  pts : wr.ownsRow (w.heap.size + 1) 34 2 (.slice ao np cp) np pc
  runs : wr.ownsRow (w.heap.size + 1) 36 2 (.slice ro nr cr) nr rc
  c0 : wr.cell? ⟨w.heap.size, 0, none⟩ = some (.slice ro nr cr)
  c1 : wr.cell? ⟨w.heap.size, 1, none⟩ = some (.slice none 0 0)
  c2 : wr.cell? ⟨w.heap.size, 2, none⟩ = some (.pointer none)
  f0 : wr.frozen? ⟨w.heap.size, 0, none⟩ = false
  f1 : wr.frozen? ⟨w.heap.size, 1, none⟩ = false
  below : Below w.heap.size w wr

theorem Lvl.size {w wr : World} {np : Nat} {pc : List Value} {ao : Option Addr} {cp nr : Nat} {rc : List Value} {ro : Option Addr} {cr : Nat} (h : Lvl w wr np pc ao cp nr rc ro cr) : w.heap.size < wr.heap.size :=
  World.block_lt_of_cell? wr _ h.c0

theorem lvl_start (w : World) : Lvl w (w.alloc (.cells #[.slice none 0 0, .slice none 0 0, .pointer none] 30)) 0 [] none 0 0 [] none 0 where
  pts := World.ownsRow_nil _ _ _ _
  runs := World.ownsRow_nil _ _ _ _
  c0 := by simp
  c1 := by simp
  c2 := by simp
  f0 := by simp
  f1 := by simp
  below := (Below.refl _ _).alloc (Nat.le_refl _) _

/-- A block that an append may have written is none of the level's. -/
theorem not_level {w wr : World} {e s n : Nat} {v : Value} {xs : List Value} (h : wr.ownsRow (w.heap.size + 1) e s v n xs) : some w.heap.size ≠ v.ownBlock := fun e => by
  have := (h.lt w.heap.size e.symm).1
  omega

theorem row_from {w wr : World} {e s n : Nat} {v : Value} {xs : List Value} (h : wr.ownsRow (w.heap.size + 1) e s v n xs) : ∀ k, v.ownBlock = some k → w.heap.size ≤ k := fun k hk => by
  have := (h.lt k hk).1
  omega

section
variable {w wr w1 : World} {np : Nat} {pc : List Value} {ao : Option Addr} {cp nr : Nat} {rc : List Value} {ro : Option Addr} {cr : Nat} {v' : Value} {news : List Value}

/-- 'pts = append(pts, p)': p lies in a new block of its own ('o'). -/
theorem Lvl.addPoint (h : Lvl w wr np pc ao cp nr rc ro cr) (o : Obj) (hown : w1.ownsRow (w.heap.size + 1) 34 2 v' (np + 1) (pc ++ news)) (hg : (wr.alloc o).grownBy w1 (Value.slice ao np cp).ownBlock) :
    ∃ g c, v' = .slice (some ⟨g, 0, none⟩) (np + 1) c ∧ Lvl w w1 (np + 1) (pc ++ news) (some ⟨g, 0, none⟩) c nr rc ro cr := by
  obtain ⟨g, c, rfl⟩ := own_some hown (Nat.succ_pos _)
  have hL := h.size
  have hnl := not_level h.pts
  have hblk : w1.heap[w.heap.size]? = wr.heap[w.heap.size]? := (hg.block _ (by simp; omega) hnl).trans (Below.heap_alloc _ _ _ hL)
  refine ⟨g, c, rfl, ⟨hown, (h.runs.alloc o).kept hg (apart (by decide) (h.runs.alloc o) (h.pts.alloc o)), ?_, ?_, ?_, ?_, ?_, (h.below.alloc h.below.size o).grown hg (by simp; omega) (row_from h.pts)⟩⟩
  · rw [World.cell?_of_block (w := wr) (a := ⟨w.heap.size, 0, none⟩) hblk]; exact h.c0
  · rw [World.cell?_of_block (w := wr) (a := ⟨w.heap.size, 1, none⟩) hblk]; exact h.c1
  · rw [World.cell?_of_block (w := wr) (a := ⟨w.heap.size, 2, none⟩) hblk]; exact h.c2
  · rw [World.frozen?_of_block (w := wr) (a := ⟨w.heap.size, 0, none⟩) hblk]; exact h.f0
  · rw [World.frozen?_of_block (w := wr) (a := ⟨w.heap.size, 1, none⟩) hblk]; exact h.f1

/-- 'append(lv.runs, r)', ahead of the store: the level's cells are as they were. -/
theorem Lvl.grown_level (h : Lvl w wr np pc ao cp nr rc ro cr) (o : Obj) (hg : (wr.alloc o).grownBy w1 (Value.slice ro nr cr).ownBlock) : ∀ j, w1.cell? ⟨w.heap.size, j, none⟩ = wr.cell? ⟨w.heap.size, j, none⟩ ∧ w1.frozen? ⟨w.heap.size, j, none⟩ = wr.frozen? ⟨w.heap.size, j, none⟩ := by
  have hL := h.size
  have hnl := not_level h.runs
  have hblk : w1.heap[w.heap.size]? = wr.heap[w.heap.size]? := (hg.block _ (by simp; omega) hnl).trans (Below.heap_alloc _ _ _ hL)
  exact fun j => ⟨World.cell?_of_block (w := wr) (a := ⟨w.heap.size, j, none⟩) hblk, World.frozen?_of_block (w := wr) (a := ⟨w.heap.size, j, none⟩) hblk⟩

/-- 'lv.runs = append(lv.runs, r)'. -/
theorem Lvl.addRun (h : Lvl w wr np pc ao cp nr rc ro cr) (o : Obj) {g c : Nat} (hown : w1.ownsRow (w.heap.size + 1) 36 2 (.slice (some ⟨g, 0, none⟩) (nr + 1) c) (nr + 1) (rc ++ news)) (hg : (wr.alloc o).grownBy w1 (Value.slice ro nr cr).ownBlock) :
    Lvl w (w1.setCell ⟨w.heap.size, 0, none⟩ (.slice (some ⟨g, 0, none⟩) (nr + 1) c)) np pc ao cp (nr + 1) (rc ++ news) (some ⟨g, 0, none⟩) c := by
  have hl := h.grown_level o hg
  have hL := h.size
  refine ⟨ownsRow_setCell_below ((h.pts.alloc o).kept hg (apart (by decide) (h.pts.alloc o) (h.runs.alloc o))) (Nat.lt_succ_self _) _, ownsRow_setCell_below hown (Nat.lt_succ_self _) _, ?_, ?_, ?_, ?_, ?_, ?_⟩
  · exact World.cell?_setCell_same _ _ _ ((hl 0).1.trans h.c0)
  · rw [World.cell?_setCell_other _ _ _ _ (by simp), (hl 1).1]; exact h.c1
  · rw [World.cell?_setCell_other _ _ _ _ (by simp), (hl 2).1]; exact h.c2
  · rw [World.frozen?_setCell, (hl 0).2]; exact h.f0
  · rw [World.frozen?_setCell, (hl 1).2]; exact h.f1
  · exact ((h.below.alloc h.below.size o).grown hg (by simp; omega) (row_from h.runs)).setCell (Nat.le_refl _) _

end
end Go.Proofs.YbulklhkDoor
