import Derived.Test.YbulkcvowFmtRows
import Derived.Test.YbulkcvowFmtShelf
import Derived.Test.YbulkcvowFmtPlain
import Derived.Stop.CallBack
import Derived.Stop.IfaceNil
import GoSem.ClaimData
import Derived.WalkKit
import Derived.WalkSpells
import Derived.WalkLawsBesides
namespace Go.Proofs.YbulkcvowFmt
open Go.RowKit Go.Extern.Stop Go.Stop Go.Extern
set_option linter.unusedVariables false

theorem call13 (args : Array Value) (w : World) : (callFunc 13 args).run Ybaf.prog w = ((FmtStop.errorf #[9, 34] #[23] args).run Ybaf.prog w).andThen fun v w' => .ok (.value v) w' :=
  run_callFunc_extern Ybaf.func13 (by kernel_rfl) (by kernel_rfl) (by kernel_rfl) (by kernel_rfl) args w
theorem guard13 (name : String) (w : World) : (FmtStop.guard name).run Ybaf.prog w = .ok () w := by kernel_rfl
/-- the format of parseYear's error -/
abbrev fmtS : ByteArray := ⟨#[121, 101, 97, 114, 32, 37, 113, 32, 105, 115, 32, 110, 111, 116, 32, 97, 32, 121, 101, 97, 114]⟩
theorem fmt0 : FmtStop.printed? ⟨#[121, 101, 97, 114, 32, 37, 113, 32, 105, 115, 32, 110, 111, 116, 32, 97, 32, 121, 101, 97, 114]⟩ 1 = some [(0, 113, false)] := by kernel_rfl
theorem fmt0r (w : World) : (FmtDoors.printed ⟨#[121, 101, 97, 114, 32, 37, 113, 32, 105, 115, 32, 110, 111, 116, 32, 97, 32, 121, 101, 97, 114]⟩ 1).run Ybaf.prog w = .ok [(0, 113, false)] w := by kernel_rfl
def shape9 : List UInt8 := [12, 6, 0, 0, 0, 0, 0, 0, 0, 115, 116, 114, 105, 110, 103]
theorem op9_113 (name : String) (x : ByteArray) (w : World) : (FmtStop.operand name false 113 false (.iface 9 (.string x))).run Ybaf.prog w = .ok (shape9, FmtStop.pack x.data.toList) w := by kernel_rfl
theorem op9_113w (name : String) (x : ByteArray) (w : World) : (FmtStop.operand name true 113 false (.iface 9 (.string x))).run Ybaf.prog w = .ok (shape9, FmtStop.pack x.data.toList) w := by kernel_rfl
theorem strict9 (name : String) (x : ByteArray) (w : World) : (FmtStop.strict name (.iface 9 (.string x))).run Ybaf.prog w = .ok (shape9, FmtStop.pack x.data.toList) w := by kernel_rfl
theorem ptr44 (w : World) : (FmtStop.ptrTo "errors.errorString").run Ybaf.prog w = .ok 44 w := by kernel_rfl
theorem elem44 (w : World) : (elemOf 44).run Ybaf.prog w = .ok 46 w := by kernel_rfl
attribute [local go_sem] call13 guard13 fmt0 fmt0r op9_113 op9_113w strict9 ptr44 elem44

set_option maxHeartbeats 800000 in
/-- fmt.Errorf at parseYear's format and one string, whatever text fmt answers: a new error, not nil. -/
theorem errorf_q (F : Interp) (s : ByteArray) (b : Nat) (w : World) (hF : F.answers w.tape) (hc : w.cell? ⟨b, 0, none⟩ = some (.iface 9 (.string s))) :
    Calls Ybaf.prog 9 #[.string fmtS, .slice (some ⟨b, 0, none⟩) 1 1] w fun e w' => (∃ p, e = .returned (.iface 44 (.pointer (some p)))) ∧ Below w.heap.size w w' := by
  have hF' := answers_open hF
  go_enter Ybaf.func9, Ybaf.ntmps9
  go_wp2
  go_ret
  exact ⟨⟨_, rfl⟩, ((Below.refl _ _).alloc (Nat.le_refl _) _).drew⟩

/-- What the row knows of strconv's two sentinels: each holds an error. -/
structure Sents (w : World) : Prop where
  syn : ∃ tp p, w.var? Ybaf.prog "strconv.ErrSyntax" = some #[.iface tp p]
  rng : ∃ tp p, w.var? Ybaf.prog "strconv.ErrRange" = some #[.iface tp p]

/-- strconv.Atoi at whatever spells no int: an error that is not nil. -/
theorem atoi_bad (s : ByteArray) (hlim : s.size ≤ 281474976710656) (h : ∀ v, Lib.atoiAll s.data.toList ≠ .ok v) (w : World) (hS : Sents w) :
    Calls Ybaf.prog 8 #[.string s] w fun e w' => ∃ (x : Int) (N : Nat), e = .returned (.tuple #[.int .i64 x, .iface 41 (.pointer (some ⟨N, 0, none⟩))]) ∧ Below w.heap.size w w' := by
  obtain ⟨t1, p1, h1⟩ := hS.syn
  obtain ⟨t2, p2, h2⟩ := hS.rng
  rcases hA : Lib.atoiAll s.data.toList with v | _ | _
  · exact absurd hA (h v)
  · exact (Any.strconv_Atoi_syntax_var Ybaf.laysC172 s hlim hA t1 p1 w h1).mono fun e w' ⟨N, he, _, _, hb⟩ => ⟨0, N, he, hb⟩
  · exact (Any.strconv_Atoi_range_var Ybaf.laysC172 s hlim hA t2 p2 w h2).mono fun e w' ⟨N, he, _, _, hb⟩ => ⟨_, N, he, hb⟩

/-- strconv.Atoi at what spells an int. -/
theorem atoi_good (s : ByteArray) (hlim : s.size ≤ 281474976710656) (v : Int) (h : Lib.atoiAll s.data.toList = .ok v) (w : World) :
    Calls Ybaf.prog 8 #[.string s] w fun e w' => e = .returned (.tuple #[.int .i64 v, .nilIface]) ∧ Below w.heap.size w w' :=
  (Ybaf.strconv_Atoi_ok s (by omega) v h w).mono fun e w' ⟨he, hw⟩ => ⟨he, by
    rcases hw with rfl | ⟨t, rfl⟩
    · exact Below.refl _ _
    · exact Lib.bytesWorld_below _ _ _⟩

set_option maxHeartbeats 800000 in
/-- parseYear at a year. -/
theorem year_some (s : ByteArray) (hlim : s.size ≤ 281474976710656) (v : Nat) (h : yearOf s.data.toList = some v) (w : World) :
    Calls Ybaf.prog 5 #[.string s] w fun e w' => e = .returned (.tuple #[.int .i64 v, .nilIface]) ∧ Below w.heap.size w w' := by
  obtain ⟨h1, h2⟩ := year_ok h
  have hd : decide ((v : Int) ≤ 0) = false := by simp; omega
  clear h
  go_enter Ybaf.func5, Ybaf.ntmps5
  go_wp2_with fail
  refine (atoi_good s hlim v h1 _).mono ?_
  rintro e w1 ⟨rfl, hb⟩
  have HB : Hid (Below w.heap.size w w1) := hb
  clear hb h1
  go_wp2_with fail
  go_ret2
  exact ⟨rfl, HB.out⟩

set_option maxHeartbeats 800000 in
/-- parseYear at whatever is no year. -/
theorem year_none (F : Interp) (s : ByteArray) (hlim : s.size ≤ 281474976710656) (h : yearOf s.data.toList = none) (w : World) (hF : F.answers w.tape) (hS : Sents w) :
    Calls Ybaf.prog 5 #[.string s] w fun e w' => (∃ p, e = .returned (.tuple #[.int .i64 0, .iface 44 (.pointer (some p))])) ∧ Below w.heap.size w w' := by
  by_cases hok : ∃ x, Lib.atoiAll s.data.toList = .ok x
  · obtain ⟨x, hx⟩ := hok
    have hx0 : x ≤ 0 := by unfold yearOf at h; rw [hx] at h; exact year_not h
    clear h
    go_enter Ybaf.func5, Ybaf.ntmps5
    go_wp2_with fail
    refine (atoi_good s hlim x hx _).mono ?_
    rintro e w1 ⟨rfl, hb⟩
    have HB : Hid (Below w.heap.size w w1) := hb
    clear hb hx
    go_wp2_with fail
    refine (errorf_q F s w1.heap.size _ (by show F.answers w1.tape; rw [HB.out.tape]; exact hF) (by go_simp)).mono ?_
    rintro e w2 ⟨⟨p, rfl⟩, hb2⟩
    have HB2 : Hid (Below w.heap.size w w2) := (HB.out.alloc HB.out.size _).trans (hb2.mono (by have := HB.out.size; simp; omega))
    clear hb2
    go_wp2_with fail
    go_ret2
    exact ⟨⟨p, rfl⟩, HB2.out⟩
  · have hno : ∀ v, Lib.atoiAll s.data.toList ≠ .ok v := fun v e => hok ⟨v, e⟩
    clear hok h
    go_enter Ybaf.func5, Ybaf.ntmps5
    go_wp2_with fail
    refine (atoi_bad s hlim hno _ hS).mono ?_
    rintro e w1 ⟨x, N, rfl, hb⟩
    have HB : Hid (Below w.heap.size w w1) := hb
    clear hb hno
    go_wp2_with fail
    refine (errorf_q F s w1.heap.size _ (by show F.answers w1.tape; rw [HB.out.tape]; exact hF) (by go_simp)).mono ?_
    rintro e w2 ⟨⟨p, rfl⟩, hb2⟩
    have HB2 : Hid (Below w.heap.size w w2) := (HB.out.alloc HB.out.size _).trans (hb2.mono (by have := HB.out.size; simp; omega))
    clear hb2
    go_wp2_with fail
    go_ret2
    exact ⟨⟨p, rfl⟩, HB2.out⟩
end Go.Proofs.YbulkcvowFmt
