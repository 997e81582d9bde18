/- The proof of the told and tied card of 'Rows.LawS4858CDigitsToldSaid'. -/
import Derived.Test.YbulkcvowFmtCards
import Derived.Test.YbulkcvowFmtTie
import Derived.Test.YbulkcvowFmtStart
import Derived.Test.YbulkcvowFmtDigits
import Derived.Lib.LaidTab
import Derived.OpenShut
import Derived.ChangeOld
import Derived.Below
import Derived.ProofKit
import Derived.Stop.JoinedAt
import Derived.Stop.Texts
import Derived.Stop.JoinedTold
import Derived.Stop.LaidErr
import Derived.SizedLaws
import Derived.SevenTiedAt
import Derived.Deep.DeepWitnessRef
namespace Go.Proofs.YbulkcvowFmt.lawS4858CDigits
open Go.ChangeShapes Go.WideShapes Go.ChangeAt Go.RowKit Go.Kit
open Go.ChangeMaps (open_string shut_string)
open Go.Extern.Stop Go.Stop Go.Extern
set_option linter.unusedVariables false

theorem own : ownKnob Ybaf.prog.godebug = none := by kernel_rfl
/-- the sentinels' dynamic type, by its name in the row -/
def errName : String := match (Rows.laid_strconv_ErrSyntax : DataW Unit) with
  | .iface n _ => n
  | _ => ""
theorem row44 (u : TypeId) (h : Ybaf.prog.typeName? 3 u = some errName) : u = 44 :=
  typeName_ptr_named (nm := "errors.errorString") (by kernel_rfl) (by kernel_rfl) (by decide) u (h.trans (congrArg some (by kernel_rfl)))

/-- The sentinels, off 'laid'. -/
theorem sents {W : World} (hL : laidMet Ybaf.prog Rows.lawS4858CDigitsRow.laid W) : Sents W := by
  obtain ⟨a1, t1, hv1, _⟩ := laid_sentinel (g := 1) (tp := 44) hL.tail.tail.tail (by kernel_rfl) (by kernel_rfl) Ybaf.underlying23 row44 Ybaf.underlying44 Ybaf.underlying46 rfl rfl Ybaf.underlying9 (by kernel_rfl) (by kernel_rfl)
  obtain ⟨a0, t0, hv0, _⟩ := laid_sentinel (g := 0) (tp := 44) hL.tail.tail.tail.tail (by kernel_rfl) (by kernel_rfl) Ybaf.underlying23 row44 Ybaf.underlying44 Ybaf.underlying46 rfl rfl Ybaf.underlying9 (by kernel_rfl) (by kernel_rfl)
  exact ⟨⟨_, _, hv0⟩, ⟨_, _, hv1⟩⟩

theorem table_eq : (Rows.laid_internal_strconv_uint64pow10 : DataW Unit) = Lib.tabData .u64 Lib.pow10Tab := by kernel_rfl
/-- The table of powers, off 'laid'. -/
theorem table {W : World} (hL : laidMet Ybaf.prog Rows.lawS4858CDigitsRow.laid W) : Lib.TabIs Ybaf.prog W tabName .u64 Lib.pow10Tab := by
  refine Lib.tabIs_of_head (g := 2) (t := 61) (e := 48) (n := 20) (by kernel_rfl) (by kernel_rfl) Ybaf.underlying61 Ybaf.underlying48 (by kernel_rfl) (by kernel_rfl) (rest := Rows.lawS4858CDigitsRow.laid.drop 3) ?_
  rw [← table_eq]
  exact hL.tail.tail
theorem three {W : World} (hT : Lib.TabIs Ybaf.prog W tabName .u64 Lib.pow10Tab) : 3 ≤ W.heap.size := by
  by_cases h : 3 ≤ W.heap.size
  · exact h
  · have hg : Ybaf.prog.globalNamed tabName = some 2 := by kernel_rfl
    have hn : W.heap[2]? = none := by simp; omega
    simp [Lib.TabIs, World.var?, hg, hn] at hT

set_option maxRecDepth 1000000 in
theorem digits_start (os : Os) {H : Type} (enc : TypeId × Value → H) :
    (OpenSpec.ofChange Rows.lawS4858CDigitsSpec).preRow enc Ybaf.prog Ybaf.f4 Rows.lawS4858CDigitsRow.domain false Rows.lawS4858CDigitsRow.laid ((laidWorld Ybaf.prog os).forCall (fun _ _ => 0) ⟨#[], #[.slice none 0 0, .int .u8 0], []⟩).memory #[.slice none 0 0, .int .u8 0] := by
  have hw : (DataW.whole enc Ybaf.prog ((laidWorld Ybaf.prog os).forCall (fun _ _ => 0) ⟨#[], #[.slice none 0 0, .int .u8 0], []⟩).memory Ybaf.f4.params.toList (OpenSpec.ofChange Rows.lawS4858CDigitsSpec).vars false #[Value.slice none 0 0, .int .u8 0].toList 8).map (fun x => (x.1, x.2.1)) =
      some ([.nil, .lit (.int .u8 0)], []) := by kernel_rfl
  obtain ⟨⟨x1, x2, x3⟩, hx, hx1⟩ := Option.map_eq_some_iff.1 hw
  simp only [Prod.mk.injEq] at hx1
  obtain ⟨rfl, rfl⟩ := hx1
  exact OpenSpec.preRow_of_cond 8 hx (by kernel_rfl) (fun k hk => by cases hk) (by kernel_rfl) (laid_met os _)

theorem laidOut0 : laidOutB Ybaf.prog = true := by kernel_rfl

/-- What the walk is told of a slice of bytes that came in. -/
def IsRow (w : World) (ao : Option Addr) (n : Nat) (d : Nat → Nat) : Prop :=
  (∀ j, d j ≤ 255) ∧ ∀ j, j < n → ∃ b off, ao = some ⟨b, off, none⟩ ∧ w.cell? ⟨b, off + j, none⟩ = some (.int .u8 (d j : Int))

theorem row_of {w : World} {x : Addr} {len cap : Nat} {zs : List Int} (hl : len ≤ cap) (hz : zs.length = cap) (hcell : ∀ i, i < zs.length → w.cell? (x.add i) = some (.int .u8 (zs.getD i 0))) (hwz : ∀ n ∈ zs, (Lit.int .u8 n).wf = true) :
    IsRow w (some x) len (fun j => (zs.getD j 0).toNat) := by
  have hb : ∀ j, 0 ≤ zs.getD j 0 ∧ zs.getD j 0 ≤ 255 := by
    intro j
    by_cases h : j < zs.length
    · have := bounds_u8 (hwz (zs[j]) (List.getElem_mem h))
      simpa [List.getD, h] using this
    · have : zs[j]? = none := by simp; omega
      simp [List.getD, this]
  refine ⟨fun j => by have := hb j; show (zs.getD j 0).toNat ≤ 255; omega, fun j hj => ?_⟩
  obtain ⟨b, off, spot⟩ := x
  have hc := hcell j (by omega)
  have hspot : spot = none := by simpa [Addr.add] using World.cell?_spot (hcell 0 (by omega))
  subst hspot
  refine ⟨b, off, rfl, ?_⟩
  rw [add_plain] at hc
  rw [hc]
  have := hb j
  show some (Value.int .u8 (zs.getD j 0)) = some (Value.int .u8 (((zs.getD j 0).toNat : Nat) : Int))
  rw [Int.toNat_of_nonneg this.1]

set_option maxRecDepth 100000 in
set_option maxHeartbeats 4000000 in
theorem lifted (os : Os) (started : os.Started) (H : Type) (enc : TypeId × Value → H) :
    ReturnsInTold none {} Ybaf.checked os 4 .any Input.okWide ((OpenSpec.ofChange Rows.lawS4858CDigitsSpec).preRow enc Ybaf.prog Ybaf.f4 Rows.lawS4858CDigitsRow.domain false Rows.lawS4858CDigitsRow.laid)
      (fun F => ((OpenSpec.ofChange Rows.lawS4858CDigitsSpec).at F).post enc Ybaf.prog Ybaf.f4 false true false false) (aloneAtReturn Ybaf.prog) nothingAlways := by
  refine returnsInTold_of_row (C := Ybaf.checked) (s := OpenSpec.ofChange Rows.lawS4858CDigitsSpec) (by kernel_rfl) own started (by kernel_rfl) Ybaf.func4
    (OpenSpec.witness_stopped_atRef (enc := enc) (C := Ybaf.checked) false (laidWorld Ybaf.prog os) #[.slice none 0 0, .int .u8 0] rfl (by kernel_rfl) (by kernel_rfl) (by kernel_rfl) (digits_start os enc)) ?_
  intro F W base args ds gs before _ hF hval0 hW hcnd0 _ hsz hL _
  have hval : ∀ (j : Nat) t v, Ybaf.f4.params[j]? = some t → args[j]? = some v → Value.okWide Ybaf.prog W .any base t v := hval0
  have hW' := hW
  obtain ⟨p, q, hA0, hV0, rfl, _, _⟩ := hW
  have hA : DataW.TrodAll enc Ybaf.prog W 0 (fun _ => true) true Ybaf.f4.params.toList args.toList ds p := hA0
  rw [Ybaf.params4] at hA hval
  obtain ⟨v0, vs0, d0, ds0, p0, q0, hargs, rfl, rfl, h0, r0⟩ := trodAll_cons hA
  obtain ⟨v1, vs1, d1, ds1, p1, q1, rfl, rfl, rfl, h1, r1⟩ := trodAll_cons r0
  obtain ⟨rfl, rfl, rfl⟩ := trodAll_nil r1
  obtain rfl : args = #[v0, v1] := by cases args; simp_all
  obtain ⟨rfl, rfl⟩ := trodVars_none hV0
  obtain ⟨a0, len0, cap0, rfl⟩ := okWide_slice Ybaf.underlying29 (hval 0 29 v0 rfl rfl)
  have k0 := h0
  have lt0 : ∀ x ∈ p0, x.block < W.heap.size := by obtain ⟨m, hm⟩ := k0; exact DataW.trod_lt m _ _ _ hm
  obtain ⟨z0, w0⟩ : ∃ d, IsRow W a0 len0 d := by
    obtain ⟨fuel, hf⟩ := h0
    rcases open_ints Ybaf.underlying29 Ybaf.underlying5 (by kernel_rfl) hf with ⟨hcs, _⟩ | ⟨x, l, c, zs, hcs, _, hl, hm, hz, _, hcell, hwz⟩
    · simp [Value.cells] at hcs
      obtain ⟨rfl, rfl, rfl⟩ := hcs
      exact ⟨fun _ => 0, fun _ => Nat.zero_le _, fun j hj => absurd hj (Nat.not_lt_zero _)⟩
    · simp [Value.cells] at hcs
      obtain ⟨rfl, rfl, rfl⟩ := hcs
      exact ⟨_, row_of hl (by simpa using hz) hcell hwz⟩
  obtain ⟨a1, rfl, rfl, rfl, w1⟩ := open_int Ybaf.underlying5 (hval 1 5 v1 rfl rfl) h1
  clear hA0 hV0 hval0
  have hb1 := bounds_u8 w1
  have hT := table hL
  refine (digits_any F.told a0 len0 cap0 z0 a1 W w0.1 hb1.1 hb1.2 w0.2 hF (sents hL) hT (three hT)).mono ?_
  rintro e W' ⟨rfl, bel⟩
  exact ⟨_, rfl, _, _, _, [], _, [], hW', trodAll_mk1 (shut_bool Ybaf.underlying4 _), (trodAll_cons_mk (Below.trod laidOut0 (by kernel_rfl) (of_decide_eq_true (by kernel_rfl)) k0 bel lt0) (trodAll_cons_mk (shut_int Ybaf.underlying5 w1) trodAll_mk0)), rfl, bel.frame _, fun h => by cases h⟩

theorem laidOut : laidOutB Ybaf.pinned.checked.prog = true := by kernel_rfl
theorem stops : Ybaf.pinned.checked.prog.stops = ["fmt.errorf"] := by kernel_rfl
theorem stopKnobs : Ybaf.pinned.checked.prog.stopKnobs = [] := by kernel_rfl
theorem quiet (os : Os) : Stop.quiet Ybaf.pinned.checked.prog os := by
  intro k hk
  rw [stopKnobs] at hk
  cases hk

set_option maxRecDepth 100000 in
/-- THE STATEMENT -/
theorem proved : Rows.LawS4858CDigitsToldSaid :=
  Claim7.holds_of_told_tied_any_at .later 4 Ybaf.f4 "fmt.errorf" [] [] _ _ _ _ _ (by kernel_rfl) rfl rfl rfl laidOut (by kernel_rfl) rfl ⟨rfl, rfl, rfl, rfl, rfl, rfl, rfl⟩ rfl rfl (by kernel_rfl) (by kernel_rfl) Ybaf.func4 (by kernel_rfl)
    (of_decide_eq_true (by kernel_rfl)) (by unfold Func.isWrapper; first | (rw [if_pos (by decide +kernel)]; kernel_rfl) | (rw [if_neg (by decide +kernel)]; exact ⟨rfl, rfl⟩)) stops.symm rfl stopKnobs.symm (by kernel_rfl)
    (by kernel_rfl) (by kernel_rfl) (by kernel_rfl) (by kernel_rfl) (by kernel_rfl) (by kernel_rfl) (by kernel_rfl) (by kernel_rfl) (by kernel_rfl) rfl (by kernel_rfl) rfl rfl
    rfl rfl
    rfl (by kernel_rfl) (by kernel_rfl) (by kernel_rfl) (by decide) (by kernel_rfl) lawS4858CDigits_row_tie
    (OpenClaim.moreEntering_of (by kernel_rfl) (by kernel_rfl) (by kernel_rfl) (by kernel_rfl) (by kernel_rfl) (by kernel_rfl) (by kernel_rfl) (by kernel_rfl) (by kernel_rfl) (by kernel_rfl))
    ⟨_, WideRow.started_initial, quiet _⟩
    (fun os started _ H enc _ => lifted os started H enc)
end Go.Proofs.YbulkcvowFmt.lawS4858CDigits
