/- The plain law, its second half: an accepted year's numeral is what stands behind the sign and the zeros. No Go in sight. -/
import Derived.Test.YbulkcvowFmtPlain
import Derived.Lib.ItoaNum
namespace Go.Proofs.YbulkcvowFmt
open Go.Lib

/-- is it a '0'? -/
def zero (c : UInt8) : Bool := c.toNat == 48

theorem dec_step (u d : Nat) (hu : 0 < u) (hd : d < 10) : decDigits (u * 10 + d) = decDigits u ++ [UInt8.ofNat (48 + d)] := by
  rw [decDigits, dif_neg (by omega)]
  have e1 : (u * 10 + d) / 10 = u := by omega
  have e2 : (u * 10 + d) % 10 = d := by omega
  rw [e1, e2]

theorem byte_back (c : UInt8) (h1 : 48 ≤ c.toNat) : UInt8.ofNat (48 + (c.toNat - 48)) = c := by
  rw [show 48 + (c.toNat - 48) = c.toNat by omega]
  simp

theorem digs_tail : ∀ (l : List UInt8) (acc v : Nat), 0 < acc → digs acc l = some v → decDigits v = decDigits acc ++ l
  | [], acc, v, ha, h => by
    simp only [digs, Option.some.injEq] at h
    rw [h, List.append_nil]
  | c :: r, acc, v, ha, h => by
    simp only [digs] at h
    split at h
    · rename_i hc
      split at h
      · rw [digs_tail r _ v (by omega) h, dec_step acc _ ha (by omega), byte_back c hc.1, List.append_assoc]
        rfl
      · cases h
    · cases h

theorem digs_zero : ∀ (l : List UInt8) (v : Nat), 0 < v → digs 0 l = some v → decDigits v = l.dropWhile zero
  | [], v, hv, h => by
    simp only [digs, Option.some.injEq] at h
    omega
  | c :: r, v, hv, h => by
    simp only [digs] at h
    split at h
    · rename_i hc
      split at h
      · by_cases hz : c.toNat = 48
        · rw [show 0 * 10 + (c.toNat - 48) = 0 by omega] at h
          rw [List.dropWhile_cons_of_pos (by simp [zero, hz])]
          exact digs_zero r v hv h
        · rw [digs_tail r _ v (by omega) h, List.dropWhile_cons_of_neg (by simp [zero, hz]), decDigits_one (by omega), show 48 + (0 * 10 + (c.toNat - 48)) = 48 + (c.toNat - 48) by omega, byte_back c hc.1]
          rfl
      · cases h
    · cases h

theorem mag_zero {l : List UInt8} {v : Nat} (h : mag l = some v) : decDigits v = l.dropWhile zero := by
  unfold mag at h
  split at h
  · cases h
  · obtain ⟨h1, h2⟩ := pos_some h
    exact digs_zero l v (by omega) h1

/-- where the digits begin: behind a '+' -/
def begins (l : List UInt8) (st : Nat) : Prop := (st = 1 ∧ ∃ r, l = 43 :: r) ∨ (st = 0 ∧ ∀ r, l ≠ 43 :: r)

/-- THE LAW OF THE NUMERAL -/
theorem year_tail {l : List UInt8} {v st : Nat} (h : yearOf l = some v) (hb : begins l st) : itoa (v : Int) = (l.drop st).dropWhile zero := by
  have hi : itoa (v : Int) = decDigits v := by
    unfold itoa
    rw [if_neg (by omega)]
    rfl
  rw [hi]
  rw [← model_year] at h
  rcases hb with ⟨rfl, r, rfl⟩ | ⟨rfl, hr⟩
  · simp only [modelOf] at h
    rw [if_pos (by decide)] at h
    rw [mag_zero h]
    rfl
  · cases l with
    | nil => cases h
    | cons c r =>
      simp only [modelOf] at h
      have h43 : ¬ c.toNat = 43 := fun e => hr r (by rw [show c = 43 from UInt8.toNat_inj.1 e])
      rw [if_neg h43] at h
      split at h
      · cases h
      · rw [mag_zero h]; rfl

theorem year_minus (r : List UInt8) : yearOf (45 :: r) = none := by
  unfold yearOf
  rw [atoiAll_minus, year_signed]

/-- one more '0' struck -/
theorem strike {l : List UInt8} {k : Nat} (h : k < l.length) (hz : (l[k]).toNat = 48) : (l.drop k).dropWhile zero = (l.drop (k + 1)).dropWhile zero := by
  rw [List.drop_eq_getElem_cons h, List.dropWhile_cons_of_pos (by simp [zero, hz])]
theorem struck {l : List UInt8} {k : Nat} (h : k < l.length) (hz : ¬ (l[k]).toNat = 48) : (l.drop k).dropWhile zero = l.drop k := by
  rw [List.drop_eq_getElem_cons h, List.dropWhile_cons_of_neg (by simp [zero, hz])]

/-- a year's range -/
theorem year_le {l : List UInt8} {v : Nat} (h : yearOf l = some v) : 1 ≤ v ∧ v ≤ 9223372036854775807 := by
  obtain ⟨h1, h2⟩ := year_ok h
  have := (atoiAll_bounds h1).2
  omega
end Go.Proofs.YbulkcvowFmt
