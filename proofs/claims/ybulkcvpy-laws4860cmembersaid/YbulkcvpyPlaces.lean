import Derived.Test.YbulkcvpyRows
import Derived.WalkKit
import Derived.WalkSpells
import Derived.WalkLawsBesides
import Derived.Deep.QuietTactic
import Derived.BigQuiet
namespace Go.Proofs.Ybulkcvpy
open Go.RowKit
set_option linter.unusedVariables false

theorem ret_int {k : IntKind} {a b : Int} (h : a = b) : Ending.returned (.int k a) = .returned (.int k b) := by rw [h]

/-- the string at place j -/
def sAt (ss : List ByteArray) (j : Nat) : ByteArray := ss.getD j ByteArray.empty

/-- r is the first place of x among the first n of ss, or -1 where none of them is x. -/
def IsFirst (ss : List ByteArray) (n : Nat) (x : ByteArray) (r : Int) : Prop :=
  (r = -1 ∧ ∀ j, j < n → ((sAt ss j).toList == x.toList) = false) ∨
  (∃ k : Nat, k < n ∧ r = k ∧ ((sAt ss k).toList == x.toList) = true ∧ ∀ j, j < k → ((sAt ss j).toList == x.toList) = false)

theorem IsFirst.one {ss : List ByteArray} {n : Nat} {x : ByteArray} {r r' : Int} (h : IsFirst ss n x r) (h' : IsFirst ss n x r') : r = r' := by
  rcases h with ⟨rfl, h⟩ | ⟨k, hk, rfl, he, h⟩ <;> rcases h' with ⟨rfl, h'⟩ | ⟨k', hk', rfl, he', h'⟩
  · rfl
  · rw [h k' hk'] at he'; cases he'
  · rw [h' k hk] at he; cases he
  · rcases Nat.lt_trichotomy k k' with e | e | e
    · rw [h' k e] at he; cases he
    · rw [e]
    · rw [h k' e] at he'; cases he'

/-- A slice of strings in memory: nothing where it is empty; else its cells. -/
structure Strs (w : World) (ao : Option Addr) (n : Nat) (ss : List ByteArray) : Prop where
  cell : ∀ j, j < n → ∃ b off, ao = some ⟨b, off, none⟩ ∧ w.cell? ⟨b, off + j, none⟩ = some (.string (sAt ss j))


set_option maxHeartbeats 400000 in
theorem first_row (b off n cap : Nat) (ss : List ByteArray) (x : ByteArray) (w : World) (hn : n ≤ 1024)
    (hc : ∀ j, j < n → w.cell? ⟨b, off + j, none⟩ = some (.string (sAt ss j))) :
    Calls Yba.prog 6 #[.slice (some ⟨b, off, none⟩) n cap, .string x] w fun e w' => (∃ r : Int, e = .returned (.int .i64 r) ∧ IsFirst ss n x r) ∧ w' = w := by
  go_enter Yba.func6, Yba.ntmps6
  go_wp2
  go_loop [5] (fun i => ∃ k : Nat, k ≤ n ∧ i = .int .i64 k ∧ Hid (∀ j, j < k → ((sAt ss j).toList == x.toList) = false)) (fun i => n - (intOf i).toNat)
  case atStart => exact ⟨0, Nat.zero_le _, rfl, fun j hj => absurd hj (Nat.not_lt_zero _)⟩
  case round =>
    obtain ⟨k, hk, rfl, HN⟩ := hrel
    by_cases hlt : k < n
    · have hck := hc k hlt
      clear hc
      go_wp2
      · have ht : ((sAt ss k).toList == x.toList) = true := by assumption
        go_ret
        exact ⟨⟨k, rfl, .inr ⟨k, hlt, rfl, ht, HN.out⟩⟩, rfl⟩
      · have ht : ((sAt ss k).toList == x.toList) = false := by assumption
        go_round
        case rel => exact ⟨k + 1, by omega, by go_num, fun j hj => by rcases Nat.lt_succ_iff_lt_or_eq.1 hj with e | e; exact HN.out j e; rw [e]; exact ht⟩
        case measure => simp [intOf]; omega
    · go_wp2
      go_ret
      exact ⟨⟨-1, rfl, .inl ⟨rfl, fun j hj => HN.out j (by omega)⟩⟩, rfl⟩

set_option maxHeartbeats 400000 in
theorem first_none (ao : Option Addr) (cap : Nat) (ss : List ByteArray) (x : ByteArray) (w : World) :
    Calls Yba.prog 6 #[.slice ao 0 cap, .string x] w fun e w' => (∃ r : Int, e = .returned (.int .i64 r) ∧ IsFirst ss 0 x r) ∧ w' = w := by
  go_enter Yba.func6, Yba.ntmps6
  go_wp2
  refine wp_loop_rounds 1 ?_
  rw [rounds_succ]
  go_wp2
  go_ret
  exact ⟨⟨-1, rfl, .inl ⟨rfl, fun j hj => absurd hj (Nat.not_lt_zero _)⟩⟩, rfl⟩

set_option maxHeartbeats 400000 in
theorem place_row (p b off n cap : Nat) (ss : List ByteArray) (x : ByteArray) (w : World) (hn : n ≤ 1024)
    (hp : w.cell? ⟨p, 3, none⟩ = some (.slice (some ⟨b, off, none⟩) n cap))
    (hc : ∀ j, j < n → w.cell? ⟨b, off + j, none⟩ = some (.string (sAt ss j))) :
    Calls Yba.prog 5 #[.pointer (some ⟨p, 0, none⟩), .string x] w fun e w' => (∃ r : Int, e = .returned (.int .i64 r) ∧ IsFirst ss n x r) ∧ w' = w := by
  go_enter Yba.func5, Yba.ntmps5
  go_wp2
  go_loop [12] (fun i => ∃ k : Nat, k ≤ n ∧ i = .int .i64 k ∧ Hid (∀ j, j < k → ((sAt ss j).toList == x.toList) = false)) (fun i => n - (intOf i).toNat)
  case atStart => exact ⟨0, Nat.zero_le _, rfl, fun j hj => absurd hj (Nat.not_lt_zero _)⟩
  case round =>
    obtain ⟨k, hk, rfl, HN⟩ := hrel
    by_cases hlt : k < n
    · have hck := hc k hlt
      clear hc
      go_wp2
      · have ht : ((sAt ss k).toList == x.toList) = true := by assumption
        go_ret
        exact ⟨⟨k, rfl, .inr ⟨k, hlt, rfl, ht, HN.out⟩⟩, rfl⟩
      · have ht : ((sAt ss k).toList == x.toList) = false := by assumption
        go_round
        case rel => exact ⟨k + 1, by omega, by go_num, fun j hj => by rcases Nat.lt_succ_iff_lt_or_eq.1 hj with e | e; exact HN.out j e; rw [e]; exact ht⟩
        case measure => simp [intOf]; omega
    · go_wp2
      go_ret
      exact ⟨⟨-1, rfl, .inl ⟨rfl, fun j hj => HN.out j (by omega)⟩⟩, rfl⟩

set_option maxHeartbeats 400000 in
theorem place_none (p : Nat) (ss : List ByteArray) (x : ByteArray) (w : World) (hp : w.cell? ⟨p, 3, none⟩ = some (.slice none 0 0)) :
    Calls Yba.prog 5 #[.pointer (some ⟨p, 0, none⟩), .string x] w fun e w' => (∃ r : Int, e = .returned (.int .i64 r) ∧ IsFirst ss 0 x r) ∧ w' = w := by
  go_enter Yba.func5, Yba.ntmps5
  go_wp2
  refine wp_loop_rounds 1 ?_
  rw [rounds_succ]
  go_wp2
  go_ret
  exact ⟨⟨-1, rfl, .inl ⟨rfl, fun j hj => absurd hj (Nat.not_lt_zero _)⟩⟩, rfl⟩

set_option maxHeartbeats 400000 in
/-- zzs4860csame at two slices that hold the same strings. -/
theorem same_row (b off cap b' off' cap' n : Nat) (ss : List ByteArray) (w : World) (hn : n ≤ 1024)
    (hc : ∀ j, j < n → w.cell? ⟨b, off + j, none⟩ = some (.string (sAt ss j))) (hc' : ∀ j, j < n → w.cell? ⟨b', off' + j, none⟩ = some (.string (sAt ss j))) :
    Calls Yba.prog 7 #[.slice (some ⟨b, off, none⟩) n cap, .slice (some ⟨b', off', none⟩) n cap'] w fun e w' => e = .returned (.bool true) ∧ ∃ m, w' = w.drewN m := by
  have hnn : ((n : Int) != n) = false := by simp
  go_enter Yba.func7, Yba.ntmps7
  go_wp2
  go_loopw [5] (fun i wr => ∃ k : Nat, k ≤ n ∧ i = .int .i64 k ∧ Hid (∃ m, wr = w.drewN m)) (fun i _ => n - (intOf i).toNat)
  case atStart => exact ⟨0, Nat.zero_le _, rfl, ⟨0, rfl⟩⟩
  case round =>
    obtain ⟨k, hk, rfl, HW⟩ := hrel
    by_cases hlt : k < n
    · have hck : wr.cell? ⟨b, off + k, none⟩ = some (.string (sAt ss k)) := by obtain ⟨m, e⟩ := HW.out; rw [e]; simpa using hc k hlt
      have hck' : wr.cell? ⟨b', off' + k, none⟩ = some (.string (sAt ss k)) := by obtain ⟨m, e⟩ := HW.out; rw [e]; simpa using hc' k hlt
      clear hc hc'
      have hki : (k : Int) < (n : Int) := by omega
      go_wp2
      go_quiet (fail)
      go_wp2
      go_roundw
      case rel => exact ⟨k + 1, by omega, by go_num, by obtain ⟨m, e⟩ := HW.out; exact ⟨m + nq, by rw [e, World.drewN_drewN]⟩⟩
      case measure => simp [intOf]; omega
    · go_wp2
      go_ret
      exact ⟨rfl, HW.out⟩

set_option maxHeartbeats 400000 in
theorem same_none (ao ao' : Option Addr) (cap cap' : Nat) (w : World) :
    Calls Yba.prog 7 #[.slice ao 0 cap, .slice ao' 0 cap'] w fun e w' => e = .returned (.bool true) ∧ ∃ m, w' = w.drewN m := by
  go_enter Yba.func7, Yba.ntmps7
  go_wp2
  refine wp_loop_rounds 1 ?_
  rw [rounds_succ]
  go_wp2
  go_ret
  exact ⟨rfl, 0, rfl⟩

end Go.Proofs.Ybulkcvpy
