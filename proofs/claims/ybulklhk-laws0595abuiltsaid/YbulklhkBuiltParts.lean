/-
  SEAT b0595a: PARTS OF THE WALK OF LawS0595ABuilt, outside the walk: the digits that are picked; the string that is built; the string with one byte put in.
-/
import Derived.Test.YbulklhkPlain
import Derived.Test.YbulklhkRows
import Derived.WalkKit
import Derived.ProofKit
import Derived.Laws.BytesArg
namespace Go.Proofs.Ybulklhk
open Go.RowKit

theorem Yba.info5 : (Yba.prog.info? 5).map (fun i => (i.zero, i.size, i.bytes)) = some (some (.int .u8 0), 1, 1) := by kernel_rfl

/-- The digits picked by the first k numbers. -/
def picked (zs : List Int) : List Int := zs.map fun z => 48 + z % 10
theorem picked_length (zs : List Int) : (picked zs).length = zs.length := by simp [picked]
theorem picked_take (zs : List Int) (k : Nat) (h : k < zs.length) : picked (zs.take (k + 1)) = picked (zs.take k) ++ [48 + zs[k]?.getD 0 % 10] := by
  rw [List.take_succ_eq_append_getElem h]
  simp only [picked, List.map_append, List.map_cons, List.map_nil]
  simp [h]
theorem picked_mem {zs : List Int} {n : Int} (h : n ∈ picked zs) : 48 ≤ n ∧ n ≤ 57 := by
  obtain ⟨z, _, rfl⟩ := List.mem_map.1 h
  omega

theorem byte_back {n : Int} (h0 : 0 ≤ n) (h1 : n ≤ 255) : ((UInt8.ofNat n.toNat).toNat : Int) = n := by
  have : (UInt8.ofNat n.toNat).toNat = n.toNat := by
    rw [UInt8.toNat_ofNat']
    exact Nat.mod_eq_of_lt (by omega)
  omega

theorem allDig_str {xs : List Int} (h : ∀ n ∈ xs, 48 ≤ n ∧ n ≤ 57) : allDig (strOfNums xs).data.toList = true := by
  rw [strOfNums_data, allDig, List.all_eq_true]
  intro c hc
  obtain ⟨n, hn, rfl⟩ := List.mem_map.1 hc
  have := h n hn
  rw [byte_back (by omega) (by omega)]
  exact digB_yes this.1 this.2

theorem allDig_str_no {xs : List Int} {b : Int} (hm : b ∈ xs) (h0 : 0 ≤ b) (h1 : b ≤ 255) (hd : digB b = false) : allDig (strOfNums xs).data.toList = false := by
  rw [strOfNums_data, allDig, List.all_eq_false]
  exact ⟨_, List.mem_map.2 ⟨b, hm, rfl⟩, by rw [byte_back h0 h1, hd]; simp⟩

theorem idx_tbl0 (w : World) : (Instr.index 9 (.string ⟨#[48, 49, 50, 51, 52, 53, 54, 55, 56, 57]⟩) (.int .i64 0)).run Yba.prog w = .ok (.int .u8 (48 + 0)) w := by kernel_rfl
theorem idx_tbl1 (w : World) : (Instr.index 9 (.string ⟨#[48, 49, 50, 51, 52, 53, 54, 55, 56, 57]⟩) (.int .i64 1)).run Yba.prog w = .ok (.int .u8 (48 + 1)) w := by kernel_rfl
theorem idx_tbl2 (w : World) : (Instr.index 9 (.string ⟨#[48, 49, 50, 51, 52, 53, 54, 55, 56, 57]⟩) (.int .i64 2)).run Yba.prog w = .ok (.int .u8 (48 + 2)) w := by kernel_rfl
theorem idx_tbl3 (w : World) : (Instr.index 9 (.string ⟨#[48, 49, 50, 51, 52, 53, 54, 55, 56, 57]⟩) (.int .i64 3)).run Yba.prog w = .ok (.int .u8 (48 + 3)) w := by kernel_rfl
theorem idx_tbl4 (w : World) : (Instr.index 9 (.string ⟨#[48, 49, 50, 51, 52, 53, 54, 55, 56, 57]⟩) (.int .i64 4)).run Yba.prog w = .ok (.int .u8 (48 + 4)) w := by kernel_rfl
theorem idx_tbl5 (w : World) : (Instr.index 9 (.string ⟨#[48, 49, 50, 51, 52, 53, 54, 55, 56, 57]⟩) (.int .i64 5)).run Yba.prog w = .ok (.int .u8 (48 + 5)) w := by kernel_rfl
theorem idx_tbl6 (w : World) : (Instr.index 9 (.string ⟨#[48, 49, 50, 51, 52, 53, 54, 55, 56, 57]⟩) (.int .i64 6)).run Yba.prog w = .ok (.int .u8 (48 + 6)) w := by kernel_rfl
theorem idx_tbl7 (w : World) : (Instr.index 9 (.string ⟨#[48, 49, 50, 51, 52, 53, 54, 55, 56, 57]⟩) (.int .i64 7)).run Yba.prog w = .ok (.int .u8 (48 + 7)) w := by kernel_rfl
theorem idx_tbl8 (w : World) : (Instr.index 9 (.string ⟨#[48, 49, 50, 51, 52, 53, 54, 55, 56, 57]⟩) (.int .i64 8)).run Yba.prog w = .ok (.int .u8 (48 + 8)) w := by kernel_rfl
theorem idx_tbl9 (w : World) : (Instr.index 9 (.string ⟨#[48, 49, 50, 51, 52, 53, 54, 55, 56, 57]⟩) (.int .i64 9)).run Yba.prog w = .ok (.int .u8 (48 + 9)) w := by kernel_rfl
theorem idx_tbl (d : Int) (h0 : 0 ≤ d) (h1 : d < 10) (w : World) : (Instr.index 9 (.string ⟨#[48, 49, 50, 51, 52, 53, 54, 55, 56, 57]⟩) (.int .i64 d)).run Yba.prog w = .ok (.int .u8 (48 + d)) w := by
  have h10 : d = 0 ∨ d = 1 ∨ d = 2 ∨ d = 3 ∨ d = 4 ∨ d = 5 ∨ d = 6 ∨ d = 7 ∨ d = 8 ∨ d = 9 := by omega
  rcases h10 with rfl | rfl | rfl | rfl | rfl | rfl | rfl | rfl | rfl | rfl
  · exact idx_tbl0 w
  · exact idx_tbl1 w
  · exact idx_tbl2 w
  · exact idx_tbl3 w
  · exact idx_tbl4 w
  · exact idx_tbl5 w
  · exact idx_tbl6 w
  · exact idx_tbl7 w
  · exact idx_tbl8 w
  · exact idx_tbl9 w

/-- 'string(bs)' of a row of the call's own. -/
theorem conv_own {w : World} {base g n cap : Nat} {xs : List Int} (h : w.ownsRow base 5 1 (.slice (some ⟨g, 0, none⟩) n cap) n (xs.map (Value.int .u8))) :
    (convert 24 9 (.slice (some ⟨g, 0, none⟩) n cap)).run Yba.prog w = .ok (.string (strOfNums xs)) w := by
  have hl : xs.length = n := by have := h.1; simpa using this
  refine run_convert_bytes_arg w 24 5 Yba.underlying24 Yba.underlying5 g 0 n cap xs hl (fun i hi => ?_) 9 Yba.underlying9
  rw [Nat.zero_add, h.cellAt i (by omega)]
  simp [List.getD, show i < xs.length by omega]

/-- The cells of 'bs[lo:hi]', bs a row of the call's own: what append asks. -/
theorem own_cells {w : World} {base g n cap : Nat} {xs : List Int} (h : w.ownsRow base 5 1 (.slice (some ⟨g, 0, none⟩) n cap) n (xs.map (Value.int .u8))) :
    ∀ t, t < n → w.cell? ⟨g, 0 + t, none⟩ = some (.int .u8 (xs.getD t 0)) := by
  have hl : xs.length = n := by have := h.1; simpa using this
  intro t ht
  rw [Nat.zero_add, h.cellAt t (by omega)]
  simp [List.getD, show t < xs.length by omega]

theorem cells_upto {w : World} {b o l p : Nat} {k : IntKind} {A : List Int} (hA : A.length = l) (hp : p ≤ l) (hcell : ∀ t, t < l → w.cell? ⟨b, o + t, none⟩ = some (.int k (A.getD t 0)))
    {ao : Option Addr} (hao : ao = some ⟨b, o, none⟩) : ∀ ad, ao = some ad → ∀ t u, ((A.take p).map (Value.int k))[t]? = some u → w.cell? (ad.add t) = some u := by
  intro ad had t u hu
  have ht : t < p := by
    have := (List.getElem?_eq_some_iff.1 hu).1
    simp [hA] at this
    omega
  rw [hao] at had
  obtain rfl := Option.some.inj had
  rw [Addr.add_lit, hcell t (by omega)]
  have e : ((A.take p).map (Value.int k))[t]? = some (.int k (A.getD t 0)) := by
    simp [List.getD, List.getElem?_take_of_lt ht, show t < A.length by omega]
  rw [e] at hu
  exact hu

end Go.Proofs.Ybulklhk
