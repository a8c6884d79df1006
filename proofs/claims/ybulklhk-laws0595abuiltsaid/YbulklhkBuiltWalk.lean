/-
  SEAT b0595a: THE WALK OF LawS0595ABuilt.
-/
import Derived.Test.YbulklhkBuiltParts
import Derived.Test.YbulklhkDigits
namespace Go.Proofs.Ybulklhk
open Go.RowKit

set_option maxHeartbeats 1600000 in
set_option maxRecDepth 100000 in
theorem built_short (a0 : Option Addr) (len cap : Nat) (zs : List Int) (pos bad : Int) (w : World) (hlen : len ≤ 4096) (hz : len ≤ zs.length)
    (hc : ∀ t, t < len → ∃ b off, a0 = some ⟨b, off, none⟩ ∧ b < w.heap.size ∧ w.cell? ⟨b, off + t, none⟩ = some (.int .u8 (zs[t]?.getD 0)))
    (hr : ∀ t : Nat, 0 ≤ zs[t]?.getD 0 ∧ zs[t]?.getD 0 ≤ 255)
    (hp0 : 0 ≤ pos) (hp1 : pos ≤ 65535) (hb0 : 0 ≤ bad) (hb1 : bad ≤ 255) :
    Calls Yba.prog 4 #[.slice a0 len cap, .int .u16 pos, .int .u8 bad] w fun e w' => e = .returned (.bool true) ∧ Below w.heap.size w w' := by
  obtain ⟨i0, hi, hz0, hz1, hz2⟩ := info_parts Yba.info5
  go_enter Yba.func4, Yba.ntmps4
  go_wp2_with (at_make; refine wpList_make_own _ rfl _ _ 24 rfl w.heap.size 5 i0 (.int .u8 0) 1 Yba.underlying24 hi hz0 hz1 _ _ _ (len + 1) rfl rfl (by omega) ?b2 ?b3 (Nat.le_refl _) ?_)
  case b2 => rw [hz2]; omega
  case b3 => unfold maxLen; omega
  intro w0 hown0 hgrow0
  go_wp2
  go_loopw [7, 8] (fun bs i wr => ∃ k : Nat, k ≤ len ∧ i = .int .i64 k ∧ bs = .slice (some ⟨w.heap.size, 0, none⟩) k (len + 1) ∧
      wr.ownsRow w.heap.size 5 1 (.slice (some ⟨w.heap.size, 0, none⟩) k (len + 1)) k ((picked (zs.take k)).map (Value.int .u8)) ∧ Below w.heap.size w wr)
    (fun _ i _ => len - (intOf i).toNat)
  case atStart => exact ⟨0, Nat.zero_le _, rfl, rfl, by simpa [picked] using hown0, (Below.refl _ _).grown hgrow0 (Nat.le_refl _) (fun k h => by cases h)⟩
  case round =>
    obtain ⟨k, hk, rfl, rfl, hown, hnx⟩ := hrel
    by_cases hlt : k < len
    · obtain ⟨b, off, ha, hbw, hck⟩ := hc k hlt
      have hcr : wr.cell? ⟨b, off + k, none⟩ = some (.int .u8 (zs[k]?.getD 0)) := (hnx.cell (by exact hbw)).trans hck
      have hrk := hr k
      have hix := fun wx => idx_tbl (zs[k]?.getD 0 % 10) (by omega) (by omega) wx
      have HP : Hid (picked (zs.take (k + 1)) = picked (zs.take k) ++ [48 + zs[k]?.getD 0 % 10]) := picked_take zs k (by omega)
      clear hck hr hc
      subst ha
      go_wp2_with (at_builtin; refine wpList_append_fits _ rfl (.tmp 25) (.tmp 33) 24 rfl w.heap.size 5 i0 1 Yba.underlying24 hi hz1 w.heap.size k (len + 1) _ rfl (hown.alloc _) ⟨wr.heap.size, 0, none⟩ 1 1 [.int .u8 (48 + zs[k]?.getD 0 % 10)] rfl rfl ?c1 ?c2 ?c3 ?_)
      case c1 => intro j u hj; match j, hj with | 0, hj => simp at hj; subst hj; simp [Addr.add]
      case c2 => intro u hu; simp at hu; subst hu; rfl
      case c3 => omega
      intro w1 hown1 hgrow1
      have R : w1.ownsRow w.heap.size 5 1 (.slice (some ⟨w.heap.size, 0, none⟩) (k + 1) (len + 1)) (k + 1) ((picked (zs.take (k + 1))).map (Value.int .u8)) := by
        rw [HP.out, List.map_append]; exact hown1
      have B1 : Below w.heap.size w w1 := (hnx.alloc hnx.size _).grown hgrow1 (by have := hnx.size; simp; omega) (fun k hk => by cases hk; exact Nat.le_refl _)
      clear hown1 hgrow1 hown hcr hix
      go_wp2
      go_roundw
      case rel => exact ⟨k + 1, by omega, by go_num, rfl, R, B1⟩
      case measure => simp [intOf]; omega
    · obtain rfl : k = len := by omega
      have hconv := conv_own hown
      have hall : allDig (strOfNums (picked (zs.take k))).data.toList = true := allDig_str fun n hn => picked_mem hn
      have hsz : (strOfNums (picked (zs.take k))).size ≤ maxLen := by rw [strOfNums_size, picked_length, List.length_take]; unfold maxLen; omega
      obtain ⟨p, hp, hpk⟩ : ∃ p : Nat, pos % ((k : Int) + 1) = (p : Int) ∧ p ≤ k :=
        ⟨(pos % ((k : Int) + 1)).toNat, by have := Int.emod_nonneg pos (show ((k : Int) + 1) ≠ 0 by omega); omega, by have := Int.emod_lt_of_pos pos (show (0 : Int) < (k : Int) + 1 by omega); have := Int.emod_nonneg pos (show ((k : Int) + 1) ≠ 0 by omega); omega⟩
      have hpl : (picked (zs.take k)).length = k := by rw [picked_length, List.length_take]; omega
      obtain ⟨D, hD⟩ : ∃ D, D = picked (zs.take k) := ⟨_, rfl⟩
      have HD : Hid (∀ n ∈ D, 48 ≤ n ∧ n ≤ 57) := fun n hn => picked_mem (hD ▸ hn)
      rw [← hD] at hown hconv hall hsz hpl
      clear hD hc hr hown0 hgrow0
      have hNlt := (hown.lt w.heap.size rfl).2
      by_cases hdb : digB bad = true
      · have hdd := of_digB hdb
        have hnb : digB (bad + 10) = false := digB_high (by omega)
        have hsz2 : (strOfNums (D.take p ++ (bad + 10) :: D.drop p)).size ≤ maxLen := by rw [strOfNums_size]; simp; unfold maxLen; omega
        have hall2 : allDig (strOfNums (D.take p ++ (bad + 10) :: D.drop p)).data.toList = false := allDig_str_no (b := bad + 10) (by simp) (by omega) (by omega) hnb
        go_wp2_with (first
          | (go_at_call 6; refine (isDigits_any _ _ (by first | (with_reducible exact hsz) | (with_reducible exact hsz2))).mono ?_; rintro e w' ⟨rfl, rfl⟩)
          | (go_at_call 5; refine (digit_any _ _).mono ?_; rintro e w' ⟨rfl, rfl⟩)
          | (at_make; refine wpList_make_own _ rfl _ _ 24 rfl w.heap.size 5 i0 (.int .u8 0) 1 Yba.underlying24 hi hz0 hz1 _ _ _ (k + 1) rfl rfl (by omega) (by rw [hz2]; omega) (by unfold maxLen; omega) hnx.size ?_; intro w2 hown2 hgrow2; have hb2 := hown.kept hgrow2 (.inr (by simp [Value.ownBlock])))
          | (at_builtin; refine wpList_append_fits_any _ rfl (.tmp 54) (.tmp 57) 24 rfl w.heap.size 5 i0 1 Yba.underlying24 hi hz1 _ 0 (k + 1) [] rfl hown2 _ p _ ((D.take p).map (Value.int .u8)) rfl (by simp; omega) (by intro h; cases h) (cells_upto hpl hpk (own_cells hb2) (by rfl)) (ints_oneCell _ _) (by omega) ?_; intro w3 hown3 hgrow3; simp only [Nat.zero_add, List.nil_append] at hown3; have hb3 := hb2.kept hgrow3 (.inr (by simp [Value.ownBlock]; omega)))
          | (at_builtin; refine wpList_append_fits _ rfl (.tmp 59) (.tmp 61) 24 rfl w.heap.size 5 i0 1 Yba.underlying24 hi hz1 _ p (k + 1) _ rfl (hown3.alloc _) ⟨w3.heap.size, 0, none⟩ 1 1 [.int .u8 (bad + 10)] rfl rfl (by intro t u ht; match t, ht with | 0, ht => simp at ht; subst ht; simp [Addr.add]) (by intro u hu; simp at hu; subst hu; rfl) (by omega) ?_; intro w4 hown4 hgrow4; have hb4 := (hb3.alloc _).kept hgrow4 (.inr (by simp [Value.ownBlock]; omega)))
          | (at_builtin; refine wpList_append_fits_any _ rfl (.tmp 63) (.tmp 66) 24 rfl w.heap.size 5 i0 1 Yba.underlying24 hi hz1 _ (p + 1) (k + 1) _ rfl hown4 _ (k - p) _ ((D.drop p).map (Value.int .u8)) rfl (by simp [hpl]) (by intro h; first | cases h | (split at h <;> cases h)) (cells_from hpl (Nat.le_succ k) (own_cells hb4) (by intro _; first | rfl | simp)) (ints_oneCell _ _) (by omega) ?_; intro w5 hown5 hgrow5; have hconv2 := conv_own (xs := D.take p ++ (bad + 10) :: D.drop p) (by simpa using hown5)))
        go_ret
        exact ⟨rfl, ((((hnx.grown hgrow2 hnx.size (fun k hk => by cases hk)).grown hgrow3 (Nat.le_trans hnx.size hgrow2.size) (fun k hk => by cases hk; exact hnx.size)).alloc (Nat.le_trans (Nat.le_trans hnx.size hgrow2.size) hgrow3.size) _).grown hgrow4 (by have := hnx.size; have := hgrow2.size; have := hgrow3.size; simp; omega) (fun k hk => by cases hk; exact hnx.size)).grown hgrow5 (by have := hnx.size; have := hgrow2.size; have := hgrow3.size; have := hgrow4.size; simp at this; omega) (fun k hk => by cases hk; exact hnx.size)⟩
      · have hnb : digB bad = false := by simpa using hdb
        clear hdb
        have hsz2 : (strOfNums (D.take p ++ (bad) :: D.drop p)).size ≤ maxLen := by rw [strOfNums_size]; simp; unfold maxLen; omega
        have hall2 : allDig (strOfNums (D.take p ++ (bad) :: D.drop p)).data.toList = false := allDig_str_no (b := bad) (by simp) (by omega) (by omega) hnb
        go_wp2_with (first
          | (go_at_call 6; refine (isDigits_any _ _ (by first | (with_reducible exact hsz) | (with_reducible exact hsz2))).mono ?_; rintro e w' ⟨rfl, rfl⟩)
          | (go_at_call 5; refine (digit_any _ _).mono ?_; rintro e w' ⟨rfl, rfl⟩)
          | (at_make; refine wpList_make_own _ rfl _ _ 24 rfl w.heap.size 5 i0 (.int .u8 0) 1 Yba.underlying24 hi hz0 hz1 _ _ _ (k + 1) rfl rfl (by omega) (by rw [hz2]; omega) (by unfold maxLen; omega) hnx.size ?_; intro w2 hown2 hgrow2; have hb2 := hown.kept hgrow2 (.inr (by simp [Value.ownBlock])))
          | (at_builtin; refine wpList_append_fits_any _ rfl (.tmp 54) (.tmp 57) 24 rfl w.heap.size 5 i0 1 Yba.underlying24 hi hz1 _ 0 (k + 1) [] rfl hown2 _ p _ ((D.take p).map (Value.int .u8)) rfl (by simp; omega) (by intro h; cases h) (cells_upto hpl hpk (own_cells hb2) (by rfl)) (ints_oneCell _ _) (by omega) ?_; intro w3 hown3 hgrow3; simp only [Nat.zero_add, List.nil_append] at hown3; have hb3 := hb2.kept hgrow3 (.inr (by simp [Value.ownBlock]; omega)))
          | (at_builtin; refine wpList_append_fits _ rfl (.tmp 59) (.tmp 61) 24 rfl w.heap.size 5 i0 1 Yba.underlying24 hi hz1 _ p (k + 1) _ rfl (hown3.alloc _) ⟨w3.heap.size, 0, none⟩ 1 1 [.int .u8 (bad)] rfl rfl (by intro t u ht; match t, ht with | 0, ht => simp at ht; subst ht; simp [Addr.add]) (by intro u hu; simp at hu; subst hu; rfl) (by omega) ?_; intro w4 hown4 hgrow4; have hb4 := (hb3.alloc _).kept hgrow4 (.inr (by simp [Value.ownBlock]; omega)))
          | (at_builtin; refine wpList_append_fits_any _ rfl (.tmp 63) (.tmp 66) 24 rfl w.heap.size 5 i0 1 Yba.underlying24 hi hz1 _ (p + 1) (k + 1) _ rfl hown4 _ (k - p) _ ((D.drop p).map (Value.int .u8)) rfl (by simp [hpl]) (by intro h; first | cases h | (split at h <;> cases h)) (cells_from hpl (Nat.le_succ k) (own_cells hb4) (by intro _; first | rfl | simp)) (ints_oneCell _ _) (by omega) ?_; intro w5 hown5 hgrow5; have hconv2 := conv_own (xs := D.take p ++ (bad) :: D.drop p) (by simpa using hown5)))
        go_ret
        exact ⟨rfl, ((((hnx.grown hgrow2 hnx.size (fun k hk => by cases hk)).grown hgrow3 (Nat.le_trans hnx.size hgrow2.size) (fun k hk => by cases hk; exact hnx.size)).alloc (Nat.le_trans (Nat.le_trans hnx.size hgrow2.size) hgrow3.size) _).grown hgrow4 (by have := hnx.size; have := hgrow2.size; have := hgrow3.size; simp; omega) (fun k hk => by cases hk; exact hnx.size)).grown hgrow5 (by have := hnx.size; have := hgrow2.size; have := hgrow3.size; have := hgrow4.size; simp at this; omega) (fun k hk => by cases hk; exact hnx.size)⟩

end Go.Proofs.Ybulklhk
