import Derived.Test.YbulkcvlcRows
import Derived.WalkKit
import Derived.WalkSpells
import Derived.WalkLawsBesides
namespace Go.Proofs.Ybulkcvlc
open Go.RowKit

/-- the small letter of a capital, else the byte itself -/
def low (c : Int) : Int := if 65 ≤ c ∧ c ≤ 90 then c + 32 else c
/-- the capital of a small letter, else the byte itself -/
def upp (c : Int) : Int := if 97 ≤ c ∧ c ≤ 122 then c - 32 else c
abbrev capitals : ByteArray := ⟨#[65, 66, 67, 68, 69, 70, 71, 72, 73, 74, 75, 76, 77, 78, 79, 80, 81, 82, 83, 84, 85, 86, 87, 88, 89, 90]⟩
abbrev smalls : ByteArray := ⟨#[97, 98, 99, 100, 101, 102, 103, 104, 105, 106, 107, 108, 109, 110, 111, 112, 113, 114, 115, 116, 117, 118, 119, 120, 121, 122]⟩

theorem ret_int {k : IntKind} {a b : Int} (h : a = b) : Ending.returned (.int k a) = .returned (.int k b) := by rw [h]
theorem capitals_at : ∀ k : Fin 26, (capitals[k.val]'k.isLt).toNat = 65 + k.val := by decide
theorem smalls_at : ∀ k : Fin 26, (smalls[k.val]'k.isLt).toNat = 97 + k.val := by decide
theorem capital (k : Nat) (h : k < capitals.size) : (((capitals[k]'h).toNat : Nat) : Int) = 65 + k := by
  have := capitals_at ⟨k, h⟩
  simp only at this
  omega
theorem small (k : Nat) (h : k < smalls.size) : (((smalls[k]'h).toNat : Nat) : Int) = 97 + k := by
  have := smalls_at ⟨k, h⟩
  simp only at this
  omega

set_option maxHeartbeats 400000 in
theorem lower_any (c : Int) (w : World) (h0 : 0 ≤ c) (h1 : c ≤ 255) :
    Calls Yba.prog 5 #[.int .u8 c] w fun e w' => e = .returned (.int .u8 (low c)) ∧ w' = w := by
  by_cases a : 65 ≤ c
  · by_cases b : c ≤ 90
    · have hl : low c = c + 32 := if_pos ⟨a, b⟩
      rw [hl]; clear hl
      go_enter Yba.func5, Yba.ntmps5
      go_wp2
      go_ret
      exact ⟨ret_int (by omega), rfl⟩
    · have hl : low c = c := if_neg (by omega)
      rw [hl]; clear hl
      go_enter Yba.func5, Yba.ntmps5
      go_wp2
      go_ret
      exact ⟨rfl, rfl⟩
  · have hl : low c = c := if_neg (by omega)
    rw [hl]; clear hl
    go_enter Yba.func5, Yba.ntmps5
    go_wp2
    go_ret
    exact ⟨rfl, rfl⟩

set_option maxHeartbeats 400000 in
theorem model_any (c : Int) (w : World) (_h0 : 0 ≤ c) (_h1 : c ≤ 255) :
    Calls Yba.prog 6 #[.int .u8 c] w fun e w' => e = .returned (.int .u8 (low c)) ∧ w' = w := by
  go_enter Yba.func6, Yba.ntmps6
  go_wp2
  go_loop [3] (fun i => ∃ k : Nat, k ≤ 26 ∧ i = .int .i64 k ∧ (c < 65 ∨ 65 + (k : Int) ≤ c)) (fun i => 26 - (intOf i).toNat)
  case atStart => exact ⟨0, Nat.zero_le _, rfl, by omega⟩
  case round =>
    obtain ⟨k, hk, rfl, hc⟩ := hrel
    by_cases hlt : k < 26
    · have HC : Hid ((((capitals[k]'hlt).toNat : Nat) : Int) = 65 + k) := capital k hlt
      have HS : Hid ((((smalls[k]'hlt).toNat : Nat) : Int) = 97 + k) := small k hlt
      go_wp2
      · have ht : ((((capitals[k]'hlt).toNat : Nat) : Int) == c) = true := by assumption
        rw [HC.out] at ht
        have hcc : 65 + (k : Int) = c := by simpa using ht
        go_ret
        exact ⟨ret_int (by rw [HS.out]; unfold low; rw [if_pos (by omega)]; omega), rfl⟩
      · have ht : ((((capitals[k]'hlt).toNat : Nat) : Int) == c) = false := by assumption
        rw [HC.out] at ht
        have hcc : ¬ 65 + (k : Int) = c := by simpa using ht
        go_round
        case rel => exact ⟨k + 1, by omega, by go_num, by omega⟩
        case measure => simp [intOf]; omega
    · go_wp2
      go_ret
      exact ⟨ret_int (if_neg (by omega)).symm, rfl⟩

set_option maxHeartbeats 400000 in
theorem upper_any (c : Int) (w : World) (_h0 : 0 ≤ c) (_h1 : c ≤ 255) :
    Calls Yba.prog 7 #[.int .u8 c] w fun e w' => e = .returned (.int .u8 (upp c)) ∧ w' = w := by
  go_enter Yba.func7, Yba.ntmps7
  go_wp2
  go_loop [3] (fun i => ∃ k : Nat, k ≤ 26 ∧ i = .int .i64 k ∧ (c < 97 ∨ 97 + (k : Int) ≤ c)) (fun i => 26 - (intOf i).toNat)
  case atStart => exact ⟨0, Nat.zero_le _, rfl, by omega⟩
  case round =>
    obtain ⟨k, hk, rfl, hc⟩ := hrel
    by_cases hlt : k < 26
    · have HC : Hid ((((smalls[k]'hlt).toNat : Nat) : Int) = 97 + k) := small k hlt
      have HS : Hid ((((capitals[k]'hlt).toNat : Nat) : Int) = 65 + k) := capital k hlt
      go_wp2
      · have ht : ((((smalls[k]'hlt).toNat : Nat) : Int) == c) = true := by assumption
        rw [HC.out] at ht
        have hcc : 97 + (k : Int) = c := by simpa using ht
        go_ret
        exact ⟨ret_int (by rw [HS.out]; unfold upp; rw [if_pos (by omega)]; omega), rfl⟩
      · have ht : ((((smalls[k]'hlt).toNat : Nat) : Int) == c) = false := by assumption
        rw [HC.out] at ht
        have hcc : ¬ 97 + (k : Int) = c := by simpa using ht
        go_round
        case rel => exact ⟨k + 1, by omega, by go_num, by omega⟩
        case measure => simp [intOf]; omega
    · go_wp2
      go_ret
      exact ⟨ret_int (if_neg (by omega)).symm, rfl⟩

end Go.Proofs.Ybulkcvlc
