/-
  THE WALKS of decimal.allDigits (function 12), its shim ZZallDigits (7), zzIsDigit (8) and zzBytes_FnAllDigitsInsertAnyPlace (6).
-/
import Derived.Test.Qxb6619249aRows
import Derived.Test.Qxb6619249aDigPlain
import Derived.WalkKit
namespace Go.Proofs.Qxb6619249a.Dig
open Go.RowKit

theorem ret_bool {a b : Bool} (h : a = b) : Ending.returned (.bool a) = .returned (.bool b) := by rw [h]

theorem dig_yes {c : UInt8} (h1 : (48 : Int) ≤ (c.toNat : Int)) (h2 : (c.toNat : Int) ≤ 57) : isDig c = true := by
  unfold isDig
  simp
  omega

theorem dig_no {c : UInt8} (h : (c.toNat : Int) < 48 ∨ (57 : Int) < (c.toNat : Int)) : isDig c = false := by
  unfold isDig
  simp
  omega

set_option maxHeartbeats 400000 in
theorem allDigits_any (s : ByteArray) (hs : s.size ≤ maxLen) (w : World) :
    Calls Try.prog 12 #[.string s] w fun e w' => e = .returned (.bool (allDig s.data.toList)) ∧ w' = w := by
  unfold maxLen at hs
  go_enter Try.func12, Try.ntmps12
  go_wp2
  go_loop [3] (fun i => ∃ k : Nat, k ≤ s.size ∧ i = .int .i64 k ∧ Hid ((s.data.toList.take k).all isDig = true)) (fun i => s.size - (intOf i).toNat)
  case atStart => exact ⟨0, Nat.zero_le _, rfl, by simp [Hid]⟩
  case round =>
    obtain ⟨k, hk, rfl, hg⟩ := hrel
    by_cases hlt : k < s.size
    · go_wp2
      · have hq : (s[k].toNat : Int) < 48 ∨ (57 : Int) < (s[k].toNat : Int) := by assumption
        go_ret
        exact ⟨ret_bool (allDig_bad s k hlt (dig_no hq)).symm, rfl⟩
      · have hq : (48 : Int) ≤ (s[k].toNat : Int) ∧ (s[k].toNat : Int) ≤ 57 := by assumption
        go_round
        case rel => exact ⟨k + 1, by omega, by go_num, by show (s.data.toList.take (k + 1)).all isDig = true; rw [take_snoc s k hlt, all_snoc, hg.out, dig_yes hq.1 hq.2]; rfl⟩
        case measure => simp [intOf]; omega
      · have hq : (s[k].toNat : Int) < 48 := by assumption
        go_ret
        exact ⟨ret_bool (allDig_bad s k hlt (dig_no (Or.inl hq))).symm, rfl⟩
    · go_wp2
      go_ret
      refine ⟨ret_bool ?_, rfl⟩
      rw [allDig_good s k (by omega) hg.out, ByteArray.toList_eq]

theorem zzAllDigits_any (s : ByteArray) (hs : s.size ≤ maxLen) (w : World) :
    Calls Try.prog 7 #[.string s] w fun e w' => e = .returned (.bool (allDig s.data.toList)) ∧ w' = w := by
  go_enter Try.func7, Try.ntmps7
  go_wp2_with (go_at_call 12; refine (allDigits_any s hs _).mono ?_; rintro e w' ⟨rfl, rfl⟩)
  go_ret
  exact ⟨rfl, rfl⟩

theorem isDigit_any (n : Int) (h0 : 0 ≤ n) (h1 : n ≤ 255) (w : World) :
    Calls Try.prog 8 #[.int .u8 n] w fun e w' => e = .returned (.bool (isDig (UInt8.ofNat n.toNat))) ∧ w' = w := by
  have e : ((UInt8.ofNat n.toNat).toNat : Int) = n := by
    rw [UInt8.toNat_ofNat']
    omega
  by_cases c1 : 48 ≤ n
  · by_cases c2 : n ≤ 57
    · have hd : isDig (UInt8.ofNat n.toNat) = true := dig_yes (by omega) (by omega)
      rw [hd]
      clear e hd
      go_enter Try.func8, Try.ntmps8
      go_wp2
      go_ret
      exact ⟨rfl, rfl⟩
    · have hd : isDig (UInt8.ofNat n.toNat) = false := dig_no (by omega)
      rw [hd]
      clear e hd
      go_enter Try.func8, Try.ntmps8
      go_wp2
      go_ret
      exact ⟨rfl, rfl⟩
  · have hd : isDig (UInt8.ofNat n.toNat) = false := dig_no (by omega)
    rw [hd]
    clear e hd
    go_enter Try.func8, Try.ntmps8
    go_wp2
    go_ret
    exact ⟨rfl, rfl⟩

end Go.Proofs.Qxb6619249a.Dig
