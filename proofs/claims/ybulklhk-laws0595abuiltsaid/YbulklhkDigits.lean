/-
  SEAT b0595a: THE TWO CALLEES BY THEIR CONTRACTS: zzs0595adigit (function 5), isDigits (function 6).
-/
import Derived.Test.YbulklhkPlain
import Derived.Test.YbulklhkRows
import Derived.WalkKit
import Derived.ProofKit
namespace Go.Proofs.Ybulklhk
open Go.RowKit

set_option maxHeartbeats 400000 in
theorem digit_any (b : Int) (w : World) :
    Calls Yba.prog 5 #[.int .u8 b] w fun e w' => e = .returned (.bool (digB b)) ∧ w' = w := by
  by_cases h : 48 ≤ b ∧ b ≤ 57
  · have hd : digB b = true := digB_yes h.1 h.2
    rw [hd]
    have h10 : b = 48 ∨ b = 49 ∨ b = 50 ∨ b = 51 ∨ b = 52 ∨ b = 53 ∨ b = 54 ∨ b = 55 ∨ b = 56 ∨ b = 57 := by omega
    clear hd h
    rcases h10 with rfl | rfl | rfl | rfl | rfl | rfl | rfl | rfl | rfl | rfl
    all_goals
      go_enter Yba.func5, Yba.ntmps5
      go_wp2
      go_ret
      exact ⟨rfl, rfl⟩
  · have hd : digB b = false := decide_eq_false h
    rw [hd]
    have e0 : (b == 48) = false := by simp; omega
    have e1 : (b == 49) = false := by simp; omega
    have e2 : (b == 50) = false := by simp; omega
    have e3 : (b == 51) = false := by simp; omega
    have e4 : (b == 52) = false := by simp; omega
    have e5 : (b == 53) = false := by simp; omega
    have e6 : (b == 54) = false := by simp; omega
    have e7 : (b == 55) = false := by simp; omega
    have e8 : (b == 56) = false := by simp; omega
    have e9 : (b == 57) = false := by simp; omega
    clear hd h
    go_enter Yba.func5, Yba.ntmps5
    go_wp2
    go_ret
    exact ⟨rfl, rfl⟩

set_option maxHeartbeats 400000 in
theorem isDigits_any (s : ByteArray) (w : World) (hs : s.size ≤ maxLen) :
    Calls Yba.prog 6 #[.string s] w fun e w' => e = .returned (.bool (allDig s.data.toList)) ∧ w' = w := by
  unfold maxLen at hs
  go_enter Yba.func6, Yba.ntmps6
  go_wp2
  go_loop [3, 6] (fun _ i => ∃ k : Nat, k ≤ s.size ∧ i = .int .i64 k ∧ Hid (allDig (s.data.toList.take k) = true)) (fun _ i => s.size - (intOf i).toNat)
  case atStart => exact ⟨0, Nat.zero_le _, rfl, rfl⟩
  case round =>
    obtain ⟨k, hk, rfl, hall⟩ := hrel
    by_cases hlt : k < s.size
    · by_cases h0 : (s[k].toNat : Int) < 48
      · have HN : Hid (allDig s.data.toList = false) := allDig_no s k hlt (digB_low h0)
        go_wp2
        go_ret
        exact ⟨ret_bool HN.out.symm, rfl⟩
      · by_cases h1 : (57 : Int) < (s[k].toNat : Int)
        · have HN : Hid (allDig s.data.toList = false) := allDig_no s k hlt (digB_high h1)
          go_wp2
          go_ret
          exact ⟨ret_bool HN.out.symm, rfl⟩
        · have HY : Hid (allDig (s.data.toList.take (k + 1)) = true) := by
            show _ = true
            rw [allDig_take s k hlt, hall.out, digB_yes (by omega) (by omega)]; rfl
          go_wp2
          go_round
          case rel => exact ⟨k + 1, by omega, by go_num, HY⟩
          case measure => simp [intOf]; omega
    · have HY : Hid (allDig s.data.toList = true) := by
        show _ = true
        rw [← take_all s k (by omega)]; exact hall.out
      go_wp2
      go_ret
      exact ⟨ret_bool HY.out.symm, rfl⟩

end Go.Proofs.Ybulklhk
