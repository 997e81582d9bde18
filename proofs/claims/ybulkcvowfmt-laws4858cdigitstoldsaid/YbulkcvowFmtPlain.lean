/- The plain law: the model's reading of a year and strconv.Atoi's, on lists of bytes. No Go in sight. -/
import Derived.Lib.AtoiAllCases
namespace Go.Proofs.YbulkcvowFmt
open Go.Lib

/-- the greatest int -/
def top : Nat := 9223372036854775807

/-- the digits of l behind the number acc, as long as they fit an int -/
def digs (acc : Nat) : List UInt8 → Option Nat
  | [] => some acc
  | c :: r => if 48 ≤ c.toNat ∧ c.toNat ≤ 57 then (if acc * 10 + (c.toNat - 48) ≤ top then digs (acc * 10 + (c.toNat - 48)) r else none) else none

/-- a number that is a year: not 0 -/
def pos : Option Nat → Option Nat
  | some (v + 1) => some (v + 1)
  | _ => none

/-- behind the sign: at least one digit -/
def mag (l : List UInt8) : Option Nat := if l = [] then none else pos (digs 0 l)

/-- zzs4858cmodel -/
def modelOf (l : List UInt8) : Option Nat :=
  match l with
  | [] => none
  | c :: r => if c.toNat = 43 then mag r else if c.toNat = 45 then none else mag l

/-- what parseYear makes of Atoi's end -/
def yearEnd : NumEnd Int → Option Nat
  | .ok v => pos (some v.toNat)
  | _ => none
def yearOf (l : List UInt8) : Option Nat := yearEnd (atoiAll l)

/-- a uint64's parse, held to an int -/
def fits : NumEnd Nat → Option Nat
  | .ok u => if u ≤ top then some u else none
  | _ => none

theorem fits_none : ∀ (l : List UInt8) (acc : Nat), top < acc → fits (parseUint10 acc l) = none
  | [], acc, h => by
    simp only [parseUint10, fits]
    rw [if_neg (by omega)]
  | c :: r, acc, h => by
    simp only [parseUint10]
    split
    · split
      · rfl
      · split
        · rfl
        · exact fits_none r _ (by unfold top at *; omega)
    · rfl

theorem digs_fits : ∀ (l : List UInt8) (acc : Nat), acc ≤ top → digs acc l = fits (parseUint10 acc l)
  | [], acc, h => by
    simp only [digs, parseUint10, fits]
    rw [if_pos h]
  | c :: r, acc, h => by
    simp only [digs, parseUint10]
    by_cases hd : 48 ≤ c.toNat ∧ c.toNat ≤ 57
    · rw [if_pos hd, if_pos hd]
      by_cases hf : acc * 10 + (c.toNat - 48) ≤ top
      · rw [if_pos hf, if_neg (by unfold top at *; omega), if_neg (by unfold top at *; omega)]
        exact digs_fits r _ hf
      · rw [if_neg hf]
        split
        · rfl
        · split
          · rfl
          · exact (fits_none r _ (by omega)).symm
    · rw [if_neg hd, if_neg hd]; rfl

theorem year_signless (e : NumEnd Nat) : yearEnd (signless e) = pos (fits e) := by
  rcases e with u | _ | _
  · simp only [signless, fits]
    by_cases h : 9223372036854775808 ≤ u
    · rw [if_pos h, if_neg (by unfold top; omega)]; rfl
    · rw [if_neg h, if_pos (by unfold top; omega)]
      simp [yearEnd]
  · rfl
  · rfl

theorem year_signed (e : NumEnd Nat) : yearEnd (signed e) = none := by
  rcases e with u | _ | _
  · simp only [signed]
    split
    · rfl
    · have : (-(u : Int)).toNat = 0 := by omega
      simp [yearEnd, this, pos]
  · rfl
  · rfl

theorem mag_fits (l : List UInt8) : mag l = pos (fits (parseMag l)) := by
  unfold mag parseMag
  split
  · rfl
  · rw [digs_fits l 0 (by unfold top; omega)]

/-- THE LAW -/
theorem model_year (l : List UInt8) : modelOf l = yearOf l := by
  unfold yearOf
  cases l with
  | nil => rfl
  | cons c r =>
    simp only [modelOf]
    by_cases h43 : c.toNat = 43
    · have e : c = 43 := UInt8.toNat_inj.1 h43
      subst e
      rw [if_pos h43, atoiAll_plus, year_signless, mag_fits]
    · rw [if_neg h43]
      by_cases h45 : c.toNat = 45
      · have e : c = 45 := UInt8.toNat_inj.1 h45
        subst e
        rw [if_pos h45, atoiAll_minus, year_signed]
      · rw [if_neg h45, atoiAll_plain c r h43 h45, year_signless, mag_fits]

/-- a year is at least 1, and an int -/
theorem pos_some {o : Option Nat} {v : Nat} (h : pos o = some v) : o = some v ∧ 1 ≤ v := by
  rcases o with _ | _ | u
  · cases h
  · cases h
  · simp only [pos, Option.some.injEq] at h
    subst h
    exact ⟨rfl, by omega⟩

theorem year_ok {e : NumEnd Int} {v : Nat} (h : yearEnd e = some v) : e = .ok (v : Int) ∧ 1 ≤ v := by
  rcases e with x | _ | _
  · have h1 := pos_some h
    simp only [Option.some.injEq] at h1
    exact ⟨by rw [← h1.1]; congr 1; omega, h1.2⟩
  · cases h
  · cases h

theorem year_not {x : Int} (h : yearEnd (.ok x) = none) : x ≤ 0 := by
  by_cases e : x ≤ 0
  · exact e
  · obtain ⟨n, hn⟩ : ∃ n : Nat, x.toNat = n + 1 := ⟨x.toNat - 1, by omega⟩
    simp [yearEnd, hn, pos] at h

end Go.Proofs.YbulkcvowFmt
