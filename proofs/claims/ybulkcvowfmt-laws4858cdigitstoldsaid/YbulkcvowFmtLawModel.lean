import Derived.Test.YbulkcvowFmtModel
namespace Go.Proofs.YbulkcvowFmt
open Go.RowKit Go.Extern.Stop Go.Stop Go.Extern
set_option linter.unusedVariables false

theorem model_some (s : ByteArray) (w : World) (hlim : s.size ≤ 281474976710656) {v : Nat} (h : yearOf s.data.toList = some v) :
    Calls Ybaf.prog 6 #[.string s] w fun e w' => e = .returned (.tuple #[.int .i64 (v : Int), .bool true]) ∧ w' = w :=
  (model_any s w hlim).mono fun e w' ⟨he, hw⟩ => ⟨he.trans (said_some ((model_year _).trans h)).symm, hw⟩
theorem model_none (s : ByteArray) (w : World) (hlim : s.size ≤ 281474976710656) (h : yearOf s.data.toList = none) :
    Calls Ybaf.prog 6 #[.string s] w fun e w' => e = .returned (.tuple #[.int .i64 0, .bool false]) ∧ w' = w :=
  (model_any s w hlim).mono fun e w' ⟨he, hw⟩ => ⟨he.trans (said_none ((model_year _).trans h)).symm, hw⟩

set_option maxHeartbeats 1000000 in
theorem law_model (F : Interp) (s : ByteArray) (hlim : s.size ≤ 281474976710656) (w : World) (hF : F.answers w.tape) (hS : Sents w) :
    Calls Ybaf.prog 3 #[.string s] w fun e w' => e = .returned (.bool true) ∧ Below w.heap.size w w' := by
  rcases hy : yearOf s.data.toList with _ | v
  · have HY : Hid (yearOf s.data.toList = none) := hy
    clear hy
    go_enter Ybaf.func3, Ybaf.ntmps3
    go_wp2_with fail
    refine (year_none F s hlim HY.out _ hF hS).mono ?_
    rintro e w1 ⟨⟨p, rfl⟩, hb⟩
    have HB : Hid (Below w.heap.size w w1) := hb
    clear hb
    go_wp2_with fail
    refine (model_none s _ hlim HY.out).mono ?_
    rintro e w2 ⟨rfl, rfl⟩
    go_wp2_with fail
    go_ret
    exact ⟨rfl, HB.out⟩
  · have HY : Hid (yearOf s.data.toList = some v) := hy
    clear hy
    have hvv : ((v : Int) == (v : Int)) = true := beq_iff_eq.2 rfl
    go_enter Ybaf.func3, Ybaf.ntmps3
    go_wp2_with fail
    refine (year_some s hlim v HY.out _).mono ?_
    rintro e w1 ⟨rfl, hb⟩
    have HB : Hid (Below w.heap.size w w1) := hb
    clear hb
    go_wp2_with fail
    refine (model_some s _ hlim HY.out).mono ?_
    rintro e w2 ⟨rfl, rfl⟩
    go_wp2_with fail
    go_ret
    exact ⟨rfl, HB.out⟩
end Go.Proofs.YbulkcvowFmt
