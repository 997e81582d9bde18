import Derived.Test.YbulkcvowFmtYear
namespace Go.Proofs.YbulkcvowFmt
open Go.RowKit
set_option linter.unusedVariables false

/-- a byte, as a number -/
theorem byte_le (c : UInt8) : c.toNat ≤ 255 := by have := c.toNat_lt; omega

theorem drop_at (s : ByteArray) (k : Nat) (h : k < s.size) : s.data.toList.drop k = (s[k]'h) :: s.data.toList.drop (k + 1) := by
  rw [List.drop_eq_getElem_cons (by simpa using h)]; rfl
theorem drop_end (s : ByteArray) : s.data.toList.drop s.size = [] := by
  apply List.drop_of_length_le
  simp
theorem at_bad (s : ByteArray) (k n : Nat) (h : k < s.size) (hc : ¬ (48 ≤ (s[k]'h).toNat ∧ (s[k]'h).toNat ≤ 57)) : digs n (s.data.toList.drop k) = none := by
  rw [drop_at s k h, digs, if_neg hc]
theorem at_over (s : ByteArray) (k n : Nat) (h : k < s.size) (hc : 48 ≤ (s[k]'h).toNat ∧ (s[k]'h).toNat ≤ 57) (ho : ¬ n * 10 + ((s[k]'h).toNat - 48) ≤ top) : digs n (s.data.toList.drop k) = none := by
  rw [drop_at s k h, digs, if_pos hc, if_neg ho]
theorem at_ok (s : ByteArray) (k n : Nat) (h : k < s.size) (hc : 48 ≤ (s[k]'h).toNat ∧ (s[k]'h).toNat ≤ 57) (ho : n * 10 + ((s[k]'h).toNat - 48) ≤ top) :
    digs n (s.data.toList.drop k) = digs (n * 10 + ((s[k]'h).toNat - 48)) (s.data.toList.drop (k + 1)) := by
  rw [drop_at s k h, digs, if_pos hc, if_pos ho]

/-- what zzs4858cmodel hands back -/
def said (o : Option Nat) : Value := .tuple #[.int .i64 (o.getD 0 : Nat), .bool o.isSome]

theorem model_head (s : ByteArray) (h : 0 < s.size) : modelOf s.data.toList = if (s[0]'h).toNat = 43 then mag (s.data.toList.drop 1) else if (s[0]'h).toNat = 45 then none else mag (s.data.toList.drop 0) := by
  have e : s.data.toList = (s[0]'h) :: s.data.toList.drop 1 := by have := drop_at s 0 h; simpa using this
  rw [List.drop_zero]
  generalize hd : s.data.toList.drop 1 = r at e
  rw [e]
  rfl
theorem mag_of (l : List UInt8) (h : l ≠ []) : mag l = pos (digs 0 l) := by unfold mag; rw [if_neg h]

theorem said_none {o : Option Nat} (h : o = none) : Ending.returned (.tuple #[.int .i64 0, .bool false]) = .returned (said o) := by rw [h]; rfl
theorem said_some {o : Option Nat} {n : Nat} (h : o = some n) : Ending.returned (.tuple #[.int .i64 (n : Int), .bool true]) = .returned (said o) := by rw [h]; rfl

set_option maxHeartbeats 1000000 in
theorem model_plain (s : ByteArray) (w : World) (hlim : s.size ≤ 281474976710656) (h0 : 0 < s.size) (h43 : ((s[0]'h0).toNat : Int) ≠ 43) (h45 : ((s[0]'h0).toNat : Int) ≠ 45) :
    Calls Ybaf.prog 6 #[.string s] w fun e w' => e = .returned (said (modelOf s.data.toList)) ∧ w' = w := by
  have HM : Hid (modelOf s.data.toList = pos (digs 0 (s.data.toList.drop 0))) := by
    show _ = _
    rw [model_head s h0, if_neg (by omega), if_neg (by omega), mag_of]
    simp
    intro e
    have : s.data.toList.length = 0 := by rw [e]; rfl
    have : s.size = 0 := by simpa using this
    omega
  have hp : (0 : Int) < (s.size : Int) := by omega
  have e43 : (((s[0]'h0).toNat : Int) == 43) = false := beq_eq_false_iff_ne.2 h43
  have e45 : (((s[0]'h0).toNat : Int) == 45) = false := beq_eq_false_iff_ne.2 h45
  have e0 : ((0 : Int) == (s.size : Int)) = false := beq_eq_false_iff_ne.2 (by omega)
  go_enter Ybaf.func6, Ybaf.ntmps6
  go_wp2
  clear h43 h45 e43 e45 e0
  go_loop [4, 5] (fun i v => ∃ k n : Nat, k ≤ s.size ∧ i = .int .i64 k ∧ v = .int .i64 n ∧ n ≤ 9223372036854775807 ∧ Hid (digs 0 (s.data.toList.drop 0) = digs n (s.data.toList.drop k))) (fun i _ => s.size - (intOf i).toNat)
  case atStart => exact ⟨0, 0, by omega, rfl, rfl, by omega, rfl⟩
  case round =>
    obtain ⟨k, n, hk, rfl, rfl, hn, HD⟩ := hrel
    by_cases hlt : k < s.size
    · have hb := byte_le (s[k]'hlt)
      by_cases hc : 48 ≤ (s[k]'hlt).toNat ∧ (s[k]'hlt).toNat ≤ 57
      · by_cases ho : n * 10 + ((s[k]'hlt).toNat - 48) ≤ 9223372036854775807
        · have HN : Hid (digs n (s.data.toList.drop k) = digs (n * 10 + ((s[k]'hlt).toNat - 48)) (s.data.toList.drop (k + 1))) := at_ok s k n hlt hc ho
          obtain ⟨hc1, hc2⟩ := hc
          have hq : ¬ (9223372036854775807 - (((s[k]'hlt).toNat : Int) - 48)) / 10 < (n : Int) := by omega
          go_wp2
          go_round
          case rel => exact ⟨k + 1, n * 10 + ((s[k]'hlt).toNat - 48), by omega, by go_num, congrArg (Value.int .i64) (by omega), ho, HD.out.trans HN.out⟩
          case measure => simp [intOf]; omega
        · have HN : Hid (digs n (s.data.toList.drop k) = none) := at_over s k n hlt hc ho
          obtain ⟨hc1, hc2⟩ := hc
          have hq : (9223372036854775807 - (((s[k]'hlt).toNat : Int) - 48)) / 10 < (n : Int) := by omega
          go_wp2
          go_ret2
          exact ⟨said_none (by rw [HM.out, HD.out, HN.out]; rfl), rfl⟩
      · have HN : Hid (digs n (s.data.toList.drop k) = none) := at_bad s k n hlt hc
        by_cases hc1 : (s[k]'hlt).toNat < 48
        · clear hc
          go_wp2
          go_ret2
          exact ⟨said_none (by rw [HM.out, HD.out, HN.out]; rfl), rfl⟩
        · have hc2 : 57 < (s[k]'hlt).toNat := by omega
          clear hc
          go_wp2
          go_ret2
          exact ⟨said_none (by rw [HM.out, HD.out, HN.out]; rfl), rfl⟩
    · have hke : k = s.size := by omega
      subst hke
      have HN : Hid (digs n (s.data.toList.drop s.size) = some n) := by show _ = _; rw [drop_end]; rfl
      rcases n with _ | m
      · go_wp2
        go_ret2
        exact ⟨said_none (by rw [HM.out, HD.out, HN.out]; rfl), rfl⟩
      · have hz : (((m + 1 : Nat) : Int) == 0) = false := beq_eq_false_iff_ne.2 (by omega)
        go_wp2
        go_ret2
        exact ⟨said_some (by rw [HM.out, HD.out, HN.out]; rfl), rfl⟩

set_option maxHeartbeats 1000000 in
theorem model_plus (s : ByteArray) (w : World) (hlim : s.size ≤ 281474976710656) (h0 : 1 < s.size) (h43 : (s[0]'(by omega)).toNat = 43) :
    Calls Ybaf.prog 6 #[.string s] w fun e w' => e = .returned (said (modelOf s.data.toList)) ∧ w' = w := by
  have HM : Hid (modelOf s.data.toList = pos (digs 0 (s.data.toList.drop 1))) := by
    show _ = _
    rw [model_head s (by omega), if_pos h43, mag_of]
    intro e
    have : (s.data.toList.drop 1).length = 0 := by rw [e]; rfl
    have h1 : s.data.toList.length = s.size := by simp
    rw [List.length_drop] at this
    omega
  have hp : (0 : Int) < (s.size : Int) := by omega
  have e43 : (((s[0]'(by omega)).toNat : Int) == 43) = true := beq_iff_eq.2 (by omega)
  have e0 : ((1 : Int) == (s.size : Int)) = false := beq_eq_false_iff_ne.2 (by omega)
  clear h43
  go_enter Ybaf.func6, Ybaf.ntmps6
  go_wp2
  clear e43 e0
  go_loop [4, 5] (fun i v => ∃ k n : Nat, k ≤ s.size ∧ i = .int .i64 k ∧ v = .int .i64 n ∧ n ≤ 9223372036854775807 ∧ Hid (digs 0 (s.data.toList.drop 1) = digs n (s.data.toList.drop k))) (fun i _ => s.size - (intOf i).toNat)
  case atStart => exact ⟨1, 0, by omega, rfl, rfl, by omega, rfl⟩
  case round =>
    obtain ⟨k, n, hk, rfl, rfl, hn, HD⟩ := hrel
    by_cases hlt : k < s.size
    · have hb := byte_le (s[k]'hlt)
      by_cases hc : 48 ≤ (s[k]'hlt).toNat ∧ (s[k]'hlt).toNat ≤ 57
      · by_cases ho : n * 10 + ((s[k]'hlt).toNat - 48) ≤ 9223372036854775807
        · have HN : Hid (digs n (s.data.toList.drop k) = digs (n * 10 + ((s[k]'hlt).toNat - 48)) (s.data.toList.drop (k + 1))) := at_ok s k n hlt hc ho
          obtain ⟨hc1, hc2⟩ := hc
          have hq : ¬ (9223372036854775807 - (((s[k]'hlt).toNat : Int) - 48)) / 10 < (n : Int) := by omega
          go_wp2
          go_round
          case rel => exact ⟨k + 1, n * 10 + ((s[k]'hlt).toNat - 48), by omega, by go_num, congrArg (Value.int .i64) (by omega), ho, HD.out.trans HN.out⟩
          case measure => simp [intOf]; omega
        · have HN : Hid (digs n (s.data.toList.drop k) = none) := at_over s k n hlt hc ho
          obtain ⟨hc1, hc2⟩ := hc
          have hq : (9223372036854775807 - (((s[k]'hlt).toNat : Int) - 48)) / 10 < (n : Int) := by omega
          go_wp2
          go_ret2
          exact ⟨said_none (by rw [HM.out, HD.out, HN.out]; rfl), rfl⟩
      · have HN : Hid (digs n (s.data.toList.drop k) = none) := at_bad s k n hlt hc
        by_cases hc1 : (s[k]'hlt).toNat < 48
        · clear hc
          go_wp2
          go_ret2
          exact ⟨said_none (by rw [HM.out, HD.out, HN.out]; rfl), rfl⟩
        · have hc2 : 57 < (s[k]'hlt).toNat := by omega
          clear hc
          go_wp2
          go_ret2
          exact ⟨said_none (by rw [HM.out, HD.out, HN.out]; rfl), rfl⟩
    · have hke : k = s.size := by omega
      subst hke
      have HN : Hid (digs n (s.data.toList.drop s.size) = some n) := by show _ = _; rw [drop_end]; rfl
      rcases n with _ | m
      · go_wp2
        go_ret2
        exact ⟨said_none (by rw [HM.out, HD.out, HN.out]; rfl), rfl⟩
      · have hz : (((m + 1 : Nat) : Int) == 0) = false := beq_eq_false_iff_ne.2 (by omega)
        go_wp2
        go_ret2
        exact ⟨said_some (by rw [HM.out, HD.out, HN.out]; rfl), rfl⟩

set_option maxHeartbeats 1000000 in
theorem model_sign (s : ByteArray) (w : World) (h0 : 0 < s.size) (h1 : s.size ≤ 1) (h43 : (s[0]'h0).toNat = 43) :
    Calls Ybaf.prog 6 #[.string s] w fun e w' => e = .returned (said (modelOf s.data.toList)) ∧ w' = w := by
  have HM : Hid (modelOf s.data.toList = none) := by
    show _ = _
    rw [model_head s h0, if_pos h43]
    have : s.data.toList.drop 1 = [] := by have e : s.size = 1 := by omega
                                           rw [← e]; exact drop_end s
    rw [this]
    rfl
  have hp : (0 : Int) < (s.size : Int) := by omega
  have e43 : (((s[0]'h0).toNat : Int) == 43) = true := beq_iff_eq.2 (by omega)
  have e0 : ((1 : Int) == (s.size : Int)) = true := beq_iff_eq.2 (by omega)
  clear h43
  go_enter Ybaf.func6, Ybaf.ntmps6
  go_wp2
  go_ret2
  exact ⟨said_none HM.out, rfl⟩

set_option maxHeartbeats 1000000 in
theorem model_minus (s : ByteArray) (w : World) (hlim : s.size ≤ 281474976710656) (h0 : 0 < s.size) (h45 : (s[0]'h0).toNat = 45) :
    Calls Ybaf.prog 6 #[.string s] w fun e w' => e = .returned (said (modelOf s.data.toList)) ∧ w' = w := by
  have HM : Hid (modelOf s.data.toList = none) := by
    show _ = _
    rw [model_head s h0, if_neg (by omega), if_pos h45]
  have hp : (0 : Int) < (s.size : Int) := by omega
  have e43 : (((s[0]'h0).toNat : Int) == 43) = false := beq_eq_false_iff_ne.2 (by omega)
  have e45 : (((s[0]'h0).toNat : Int) == 45) = true := beq_iff_eq.2 (by omega)
  clear h45
  go_enter Ybaf.func6, Ybaf.ntmps6
  go_wp2
  go_ret2
  exact ⟨said_none HM.out, rfl⟩

set_option maxHeartbeats 1000000 in
theorem model_empty (w : World) : Calls Ybaf.prog 6 #[.string ⟨#[]⟩] w fun e w' => e = .returned (said none) ∧ w' = w := by
  go_enter Ybaf.func6, Ybaf.ntmps6
  go_wp2
  go_ret2
  exact ⟨said_none rfl, rfl⟩

/-- zzs4858cmodel at every string -/
theorem model_any (s : ByteArray) (w : World) (hlim : s.size ≤ 281474976710656) :
    Calls Ybaf.prog 6 #[.string s] w fun e w' => e = .returned (said (modelOf s.data.toList)) ∧ w' = w := by
  by_cases h0 : 0 < s.size
  · by_cases h43 : (s[0]'h0).toNat = 43
    · by_cases h1 : 1 < s.size
      · exact model_plus s w hlim h1 h43
      · exact model_sign s w h0 (by omega) h43
    · by_cases h45 : (s[0]'h0).toNat = 45
      · exact model_minus s w hlim h0 h45
      · exact model_plain s w hlim h0 (by omega) (by omega)
  · obtain ⟨⟨l⟩⟩ := s
    have hl : l = [] := by
      have : l.length = 0 := by have : l.toArray.size = 0 := by simpa [ByteArray.size] using h0
                                simpa using this
      exact List.length_eq_zero_iff.1 this
    subst hl
    exact model_empty w
end Go.Proofs.YbulkcvowFmt
