import Derived.Test.YbulkcvlcBytes
import Derived.Deep.QuietTactic
import Derived.BigQuiet
namespace Go.Proofs.Ybulkcvlc
open Go.RowKit
set_option linter.unusedVariables false

/-- -1, 0, 1 as a is below, at or above b -/
def sgn (a b : Int) : Int := if a < b then -1 else if b < a then 1 else 0
theorem sgn_lt {a b : Int} (h : a < b) : sgn a b = -1 := if_pos h
theorem sgn_gt {a b : Int} (h : b < a) : sgn a b = 1 := by unfold sgn; rw [if_neg (by omega), if_pos h]
theorem sgn_eq {a b : Int} (h : a = b) : sgn a b = 0 := by unfold sgn; rw [if_neg (by omega), if_neg (by omega)]

set_option maxHeartbeats 400000 in
theorem isNaN_int (x : Int) (w : World) :
    Calls Yba.prog 12 #[.int .i64 x] w fun e w' => e = .returned (.bool false) ∧ w' = w := by
  go_enter Yba.func12, Yba.ntmps12
  go_wp2
  go_ret
  exact ⟨by simp, rfl⟩

set_option maxHeartbeats 400000 in
theorem compare_int (a b : Int) (w : World) :
    Calls Yba.prog 10 #[.int .i64 a, .int .i64 b] w fun e w' => e = .returned (.int .i64 (sgn a b)) ∧ w' = w := by
  by_cases h : a < b
  · go_enter Yba.func10, Yba.ntmps10
    go_wp2_with (go_at_call 12; refine (isNaN_int _ _).mono ?_; rintro e w' ⟨rfl, rfl⟩)
    go_ret
    exact ⟨ret_int (sgn_lt h).symm, rfl⟩
  · by_cases h2 : b < a
    · go_enter Yba.func10, Yba.ntmps10
      go_wp2_with (go_at_call 12; refine (isNaN_int _ _).mono ?_; rintro e w' ⟨rfl, rfl⟩)
      go_ret
      exact ⟨ret_int (sgn_gt h2).symm, rfl⟩
    · go_enter Yba.func10, Yba.ntmps10
      go_wp2_with (go_at_call 12; refine (isNaN_int _ _).mono ?_; rintro e w' ⟨rfl, rfl⟩)
      go_ret
      exact ⟨ret_int (sgn_eq (by omega)).symm, rfl⟩

theorem byte_bd (c : UInt8) : 0 ≤ (c.toNat : Int) ∧ (c.toNat : Int) ≤ 255 := by
  have := c.toNat_lt; omega

set_option maxHeartbeats 600000 in
/-- compareFold where the two agree, folded, as far as both reach: the lengths decide (a no longer than b). -/
theorem fold_le (a b : ByteArray) (w : World) (ha : a.size ≤ 4096) (hb : b.size ≤ 4096) (hm : a.size ≤ b.size)
    (HE : Hid (∀ (i : Nat) (p : i < a.size) (q : i < b.size), low (a[i]'p).toNat = low (b[i]'q).toNat)) :
    Calls Yba.prog 8 #[.string a, .string b] w fun e w' => e = .returned (.int .i64 (sgn a.size b.size)) ∧ ∃ n, w' = w.drewN n := by
  go_enter Yba.func8, Yba.ntmps8
  go_wp2
  go_loopw [13] (fun i wr => ∃ k : Nat, k ≤ a.size ∧ i = .int .i64 k ∧ Hid (∃ n, wr = w.drewN n)) (fun i _ => a.size - (intOf i).toNat)
  case atStart => exact ⟨0, Nat.zero_le _, rfl, ⟨0, rfl⟩⟩
  case round =>
    obtain ⟨k, hk, rfl, HW⟩ := hrel
    by_cases hlt : k < a.size
    · have hka : k < a.size := by omega
      have hkb : k < b.size := by omega
      have HK : Hid (low (a[k]'hka).toNat = low (b[k]'hkb).toNat) := HE.out k hka hkb
      clear HE
      go_wp2
      go_quiet ((go_at_call 5; exact Calls.quiet_of_same (lower_any _ _ (byte_bd _).1 (byte_bd _).2)))
      have hk2 : (low (a[k]'hka).toNat != low (b[k]'hkb).toNat) = false := by rw [HK.out]; simp
      go_wp2
      go_roundw
      case rel => exact ⟨k + 1, by omega, by go_num, by obtain ⟨n, hn⟩ := HW.out; exact ⟨n + nq, by rw [hn, World.drewN_drewN]⟩⟩
      case measure => simp [intOf]; omega
    · go_wp2_with (go_at_call 10; refine (compare_int _ _ _).mono ?_; rintro e w' ⟨rfl, rfl⟩)
      go_ret
      exact ⟨rfl, HW.out⟩

set_option maxHeartbeats 600000 in
/-- compareFold where the two agree, folded, as far as both reach: the lengths decide (a longer than b). -/
theorem fold_gt (a b : ByteArray) (w : World) (ha : a.size ≤ 4096) (hb : b.size ≤ 4096) (hm : b.size < a.size)
    (HE : Hid (∀ (i : Nat) (p : i < a.size) (q : i < b.size), low (a[i]'p).toNat = low (b[i]'q).toNat)) :
    Calls Yba.prog 8 #[.string a, .string b] w fun e w' => e = .returned (.int .i64 (sgn a.size b.size)) ∧ ∃ n, w' = w.drewN n := by
  go_enter Yba.func8, Yba.ntmps8
  go_wp2
  go_loopw [13] (fun i wr => ∃ k : Nat, k ≤ b.size ∧ i = .int .i64 k ∧ Hid (∃ n, wr = w.drewN n)) (fun i _ => b.size - (intOf i).toNat)
  case atStart => exact ⟨0, Nat.zero_le _, rfl, ⟨0, rfl⟩⟩
  case round =>
    obtain ⟨k, hk, rfl, HW⟩ := hrel
    by_cases hlt : k < b.size
    · have hka : k < a.size := by omega
      have hkb : k < b.size := by omega
      have HK : Hid (low (a[k]'hka).toNat = low (b[k]'hkb).toNat) := HE.out k hka hkb
      clear HE
      go_wp2
      go_quiet ((go_at_call 5; exact Calls.quiet_of_same (lower_any _ _ (byte_bd _).1 (byte_bd _).2)))
      have hk2 : (low (a[k]'hka).toNat != low (b[k]'hkb).toNat) = false := by rw [HK.out]; simp
      go_wp2
      go_roundw
      case rel => exact ⟨k + 1, by omega, by go_num, by obtain ⟨n, hn⟩ := HW.out; exact ⟨n + nq, by rw [hn, World.drewN_drewN]⟩⟩
      case measure => simp [intOf]; omega
    · go_wp2_with (go_at_call 10; refine (compare_int _ _ _).mono ?_; rintro e w' ⟨rfl, rfl⟩)
      go_ret
      exact ⟨rfl, HW.out⟩

end Go.Proofs.Ybulkcvlc
