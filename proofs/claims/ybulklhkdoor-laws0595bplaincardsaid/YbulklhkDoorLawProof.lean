/-
  SEAT b0595aD: 'Rows.LawS0595BPlainSaid' AND ITS TIED CARD. The frame after the guide's proof-skeleton (a law over slices of integers) and its MapyProofs, MapyCard (a row that lists variables; its tied card).
-/
import Derived.Test.YbulklhkDoorWalk
import Derived.Test.YbulklhkDoorTie
import Derived.Test.YbulklhkDoorCards
import Derived.OpenShut
import Derived.ChangeOld
import Derived.Below
import Derived.Carry
import Derived.LaidMore
import Derived.Stop.Joined
import Derived.SevenTiedAt
namespace Go.Proofs.YbulklhkDoor
open Go.ChangeShapes Go.WideShapes Go.ChangeAt Go.RowKit

theorem own : ownKnob Ybad.prog.godebug = none := by kernel_rfl
theorem laidOut : laidOutB Ybad.prog = true := by kernel_rfl
theorem Ybad.cells5 : Ybad.prog.cellsOf 5 = 1 := by kernel_rfl
theorem Ybad.cells32 : Ybad.prog.cellsOf 32 = 1 := by kernel_rfl

/-! ### THE NAMED VARIABLES READ BEHIND THE CALL AS BEFORE IT, if below the heap's old size nothing has turned -/
theorem var_lt {P : Program} {W : World} {n : String} {g : Nat} {cs : Array Value} (hg : P.globalNamed n = some g) (hv : W.var? P n = some cs) : g < W.heap.size := by
  unfold World.var? at hv
  simp only [hg, Option.bind_some] at hv
  rcases Nat.lt_or_ge g W.heap.size with h | h
  · exact h
  · rw [Array.getElem?_eq_none h] at hv
    simp at hv
theorem vars_below {H : Type} {enc : TypeId × Value → H} {P : Program} {W W' : World} (hl : laidOutB P = true) (hb : Below W.heap.size W W') : ∀ {ns : List String} {gs : List (DataW H)} {ps : List MemPlace},
    (∀ n ∈ ns, ∀ g t, P.globalNamed n = some g → (P.globals[g]?).map (·.type) = some t → P.readableRec t = true ∧ t < P.types.size) →
    DataW.TrodVars enc P W (fun _ => true) ns gs ps → DataW.TrodVars enc P W' (fun b => decide (b < W.heap.size)) ns gs ps
  | [], [], _, _, h => h
  | [], _ :: _, _, _, h => h
  | _ :: _, [], _, _, h => h
  | n :: ns, d :: ds, ps, hr, h => by
    obtain ⟨g, t, cs, fuel, p, q, hg, ht, hv, htr, hrest, e⟩ := h
    obtain ⟨hrec, hrow⟩ := hr n (List.mem_cons.2 (.inl rfl)) g t hg ht
    have hlt : ∀ x ∈ p, x.block < W.heap.size := DataW.trod_lt fuel _ _ _ htr
    obtain ⟨fuel', htr'⟩ := Below.trod (v := .agg cs) hl hrec hrow ⟨fuel, htr⟩ hb hlt
    exact ⟨g, t, cs, fuel', p, q, hg, ht, var?_below hb hg (var_lt hg hv) hv, htr', vars_below hl hb (fun m hm => hr m (List.mem_cons.2 (.inr hm))) hrest, e⟩

/-- Each named variable's type can be read: one closed fact. -/
def readVarsB (P : Program) (ns : List String) : Bool := ns.all fun n => match P.globalNamed n with
  | some g => (match (P.globals[g]?).map (·.type) with | some t => P.readableRec t && decide (t < P.types.size) | none => true)
  | none => true
theorem readVars {P : Program} {ns : List String} (h : readVarsB P ns = true) : ∀ n ∈ ns, ∀ g t, P.globalNamed n = some g → (P.globals[g]?).map (·.type) = some t → P.readableRec t = true ∧ t < P.types.size := by
  intro n hn g t hg ht
  have := List.all_eq_true.1 h n hn
  simp only [hg, ht, Bool.and_eq_true, decide_eq_true_eq] at this
  exact this
theorem varsRead : readVarsB Ybad.prog Rows.lawS0595BPlainSpec.vars = true := by kernel_rfl

/-! ### STEP 1: THE WALK at what the arguments read as -/
/-- What the walk is told of a slice of integers that came in: it is nil; or it leads to a row of 'cap' cells, the numbers 'zs', each fitting its kind. -/
def IsRow (k : IntKind) (w : World) (a : Option Addr) (len cap : Nat) (zs : List Int) : Prop :=
  (a = none ∧ len = 0 ∧ cap = 0 ∧ zs = []) ∨
  ∃ x, a = some x ∧ len ≤ cap ∧ cap ≤ maxLen ∧ zs.length = cap ∧ (∀ i, i < zs.length → w.cell? (x.add i) = some (.int k (zs.getD i 0))) ∧ ∀ n ∈ zs, (Lit.int k n).wf = true

theorem IsRow.len {k : IntKind} {w : World} {a : Option Addr} {len cap : Nat} {zs : List Int} (h : IsRow k w a len cap zs) : len ≤ 9223372036854775807 := by
  rcases h with ⟨_, h, _⟩ | ⟨_, _, h1, h2, _⟩
  · omega
  · unfold maxLen at h2; omega
theorem IsRow.cells {k : IntKind} {w : World} {a : Option Addr} {len cap : Nat} {zs : List Int} (h : IsRow k w a len cap zs) : ∀ t, t < len → ∃ b off, a = some ⟨b, off, none⟩ ∧ b < w.heap.size ∧ w.cell? ⟨b, off + t, none⟩ = some (.int k (zs[t]?.getD 0)) := by
  intro t ht
  rcases h with ⟨_, h, _⟩ | ⟨x, ha, hlc, hm, hz, hcell, _⟩
  · omega
  · obtain ⟨b, off, hx, hc⟩ := ints_at hcell (show 0 < zs.length by omega)
    have hct := hc t (by omega)
    exact ⟨b, off, by rw [ha, hx], World.block_lt_of_cell? w _ hct, by simpa [List.getD] using hct⟩
theorem IsRow.bytes {w : World} {a : Option Addr} {len cap : Nat} {zs : List Int} (h : IsRow .u8 w a len cap zs) : ∀ t : Nat, 0 ≤ zs[t]?.getD 0 ∧ zs[t]?.getD 0 ≤ 255 := by
  rcases h with ⟨_, _, _, rfl⟩ | ⟨_, _, _, _, _, _, hw⟩
  · intro t; simp
  · exact range_u8 hw

set_option maxRecDepth 100000 in
/-- No run, or more than 1024: true at once. -/
theorem plain_out (len cap lv cv : Nat) (a0 a1 : Option Addr) (sel base : Int) (w : World) (hlen : len ≤ 9223372036854775807) (h : len = 0 ∨ 1024 < len) :
    Calls Ybad.prog 3 #[.slice a0 len cap, .slice a1 lv cv, .int .u64 sel, .int .i32 base] w fun e w' => e = .returned (.bool true) ∧ Below w.heap.size w w' := by
  rcases h with rfl | h
  · go_enter Ybad.func3, Ybad.ntmps3
    go_wp2
    go_ret
    exact ⟨rfl, Below.refl _ _⟩
  · have h1 : (1024 : Int) < (len : Int) := by omega
    go_enter Ybad.func3, Ybad.ntmps3
    go_wp2
    go_ret
    exact ⟨rfl, Below.refl _ _⟩

theorem walk (a0 : Option Addr) (len0 cap0 : Nat) (z0 : List Int) (a1 : Option Addr) (len1 cap1 : Nat) (z1 : List Int) (sel base : Int) (w : World) (w0 : IsRow .u8 w a0 len0 cap0 z0) (w1 : IsRow .i8 w a1 len1 cap1 z1)
    (w2 : (Lit.int .u64 sel).wf = true) (w3 : (Lit.int .i32 base).wf = true) :
    Calls Ybad.prog 3 #[.slice a0 len0 cap0, .slice a1 len1 cap1, .int .u64 sel, .int .i32 base] w fun e w' => e = .returned (.bool true) ∧ Below w.heap.size w w' := by
  by_cases h : len0 = 0 ∨ 1024 < len0
  · exact plain_out len0 cap0 len1 cap1 a0 a1 sel base w w0.len h
  · have b2 := bounds_u64 w2
    have b3 := bounds_i32 w3
    have hb := w0.bytes
    exact plain_walk a0 a1 len0 cap0 len1 cap1 sel base (fun t => (z0[t]?.getD 0).toNat) (fun t => z1[t]?.getD 0) w (by omega) (by omega) w1.len
      (fun t ht => by
        obtain ⟨b, off, h1, h2, h3⟩ := w0.cells t ht
        exact ⟨b, off, h1, h2, by rw [h3]; show some (Value.int .u8 _) = some (Value.int .u8 ((z0[t]?.getD 0).toNat : Int)); rw [Int.toNat_of_nonneg (hb t).1]⟩)
      w1.cells (fun t => by have := hb t; show (z0[t]?.getD 0).toNat ≤ 255; omega) b2.1 b2.2 b3.1 b3.2

/-! ### STEP 2: THE ROW -/
/-- The door's own heap meets the condition. -/
theorem door_met (os : Os) (args : Array Value) : laidMetH Ybad.prog Rows.lawS0595BPlainRow.laid ((World.doorLaid Ybad.prog 53 os).forCall (fun _ _ => 0) ⟨#[], args, []⟩).memory :=
  laidMetH_of_parts3 (fuel := 8) (laidMet_of_run' 8 (by kernel_rfl) (by kernel_rfl)) (by kernel_rfl) (by kernel_rfl)

set_option maxRecDepth 100000 in
theorem lifted (os : Os) (started : os.Started) (H : Type) (enc : TypeId × Value → H) :
    ReturnsInHanded {} Ybad.checked os 3 .any (fun w args => (Rows.lawS0595BPlainSpec.pre enc Ybad.prog Ybad.f3 [] false w args ∧ laidMetH Ybad.prog Rows.lawS0595BPlainRow.laid w) ∧ sizedMet enc Ybad.prog Ybad.f3 (OpenSpec.ofChange Rows.lawS0595BPlainSpec) false w args)
      (Rows.lawS0595BPlainSpec.post enc Ybad.prog Ybad.f3 false true false false) := by
  refine returnsInHanded_of_change_and (C := Ybad.checked) (X := fun w _ => laidMetH Ybad.prog Rows.lawS0595BPlainRow.laid w) (fun _ _ _ hh h => h.of_heap hh) own started (by kernel_rfl) Ybad.func3
    (ChangeSpec.witness_shaped (enc := enc) (C := Ybad.checked) (os := os) (X := fun w _ => laidMetH Ybad.prog Rows.lawS0595BPlainRow.laid w) false (World.doorLaid Ybad.prog 53 os) #[.slice none 0 0, .slice none 0 0, .int .u64 0, .int .i32 0] 8 rfl (World.shaped_of_RefB (by kernel_rfl) (by kernel_rfl)) (by kernel_rfl) (by kernel_rfl) (by kernel_rfl) (door_met os _)) ?_
  intro W base args ds gs before hval0 hW _ _ _ _
  have hval : ∀ (j : Nat) t v, Ybad.f3.params[j]? = some t → args[j]? = some v → Value.okWide Ybad.prog W .any base t v := hval0
  have hW' := hW
  obtain ⟨p, q, hA0, hV, rfl, hfz, hnd⟩ := hW
  have hA : DataW.TrodAll enc Ybad.prog W 0 (fun _ => true) true Ybad.f3.params.toList args.toList ds p := hA0
  rw [Ybad.params3] at hA hval
  obtain ⟨v0, v1, v2, v3, d0, d1, d2, d3, p0, p1, p2, p3, rfl, rfl, rfl, h0, h1, h2, h3⟩ := trodAll_four hA
  obtain ⟨g0, t0, cs0, f0, e0, q0, g1, t1, cs1, f1, e1, q1, rfl, _⟩ := trodVars_two hV
  have k0 := h0
  have k1 := h1
  have lt0 : ∀ x ∈ p0, x.block < W.heap.size := by obtain ⟨m, hm⟩ := k0; exact DataW.trod_lt m _ _ _ hm
  have lt1 : ∀ x ∈ p1, x.block < W.heap.size := by obtain ⟨m, hm⟩ := k1; exact DataW.trod_lt m _ _ _ hm
  obtain ⟨a0, len0, cap0, rfl⟩ := okWide_slice Ybad.underlying22 (hval 0 22 v0 rfl rfl)
  obtain ⟨a1, len1, cap1, rfl⟩ := okWide_slice Ybad.underlying23 (hval 1 23 v1 rfl rfl)
  obtain ⟨z0, w0⟩ : ∃ zs, IsRow .u8 W a0 len0 cap0 zs := by
    obtain ⟨fuel, hf⟩ := h0
    rcases open_ints Ybad.underlying22 Ybad.underlying5 Ybad.cells5 hf with ⟨hcs, _⟩ | ⟨x, l, c, zs, hcs, _, hl, hm, hz, _, hcell, hwz⟩
    · simp [Value.cells] at hcs
      obtain ⟨rfl, rfl, rfl⟩ := hcs
      exact ⟨[], .inl ⟨rfl, rfl, rfl, rfl⟩⟩
    · simp [Value.cells] at hcs
      obtain ⟨rfl, rfl, rfl⟩ := hcs
      exact ⟨zs, .inr ⟨_, rfl, hl, hm, by simpa using hz, hcell, hwz⟩⟩
  obtain ⟨z1, w1⟩ : ∃ zs, IsRow .i8 W a1 len1 cap1 zs := by
    obtain ⟨fuel, hf⟩ := h1
    rcases open_ints Ybad.underlying23 Ybad.underlying32 Ybad.cells32 hf with ⟨hcs, _⟩ | ⟨x, l, c, zs, hcs, _, hl, hm, hz, _, hcell, hwz⟩
    · simp [Value.cells] at hcs
      obtain ⟨rfl, rfl, rfl⟩ := hcs
      exact ⟨[], .inl ⟨rfl, rfl, rfl, rfl⟩⟩
    · simp [Value.cells] at hcs
      obtain ⟨rfl, rfl, rfl⟩ := hcs
      exact ⟨zs, .inr ⟨_, rfl, hl, hm, by simpa using hz, hcell, hwz⟩⟩
  obtain ⟨sel, rfl, rfl, rfl, w2⟩ := open_int Ybad.underlying24 (hval 2 24 v2 rfl rfl) h2
  obtain ⟨bs, rfl, rfl, rfl, w3⟩ := open_int Ybad.underlying21 (hval 3 21 v3 rfl rfl) h3
  clear hA0 hval0
  refine (walk a0 len0 cap0 z0 a1 len1 cap1 z1 sel bs W w0 w1 w2 w3).mono fun e W' ⟨he, bel⟩ => ?_
  subst he
  exact ⟨_, rfl, _, _, _, [], _, _, hW', trodAll_mk1 (shut_bool Ybad.underlying4 _),
    (trodAll_cons_mk (Below.trod laidOut (by kernel_rfl) (of_decide_eq_true (by kernel_rfl)) k0 bel lt0) (trodAll_cons_mk (Below.trod laidOut (by kernel_rfl) (of_decide_eq_true (by kernel_rfl)) k1 bel lt1) (trodAll_cons_mk (shut_int Ybad.underlying24 w2) (trodAll_cons_mk (shut_int Ybad.underlying21 w3) trodAll_mk0)))),
    vars_below laidOut bel (readVars varsRead) hV, bel.frame _, fun h => by cases h⟩

theorem lawS0595BPlain_row : Rows.LawS0595BPlainSaid :=
  OpenClaim.holds_of_wide 3 Ybad.f3 rfl rfl rfl rfl rfl rfl rfl ⟨rfl, rfl, rfl, rfl, rfl⟩ rfl rfl rfl rfl rfl (by kernel_rfl) Ybad.func3 (by kernel_rfl)
    (of_decide_eq_true (by kernel_rfl)) (by unfold Func.isWrapper; first | (rw [if_pos (by decide +kernel)]; kernel_rfl) | (rw [if_neg (by decide +kernel)]; exact ⟨rfl, rfl⟩))
    (fun os started H enc _ => lifted os started H enc)
end Go.Proofs.YbulklhkDoor
