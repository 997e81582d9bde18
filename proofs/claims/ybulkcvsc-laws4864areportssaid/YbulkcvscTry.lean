import Derived.Test.YbulkcvscMem
namespace Go.Proofs.Ybulkcvsc
open Go.RowKit Go.MuLone Go.Conc.Locks
set_option linter.unusedVariables false

theorem info38 : (Yba.prog.info? 38).map (fun i => decide (i.size = 0)) = some false := by kernel_rfl

/-- The conversion of a *internal/sync.Mutex for the race detector's mark, laid open: by the kernel's own evaluation. -/
theorem mark_form (a : Addr) (w : World) : (convert 61 65 (.pointer (some a))).run Yba.prog w = Sem.run Yba.prog (do
    let s ← Conv.seenAt a
    let nothing := match ← cellsIn s.block with
      | some cells => s.off ≥ cells && s.spot.isNone
      | none => false
    if (← Go.sizeOf 38) = 0 || nothing then pure (.pointer (some ⟨← newObj (.view s 38), 0, none⟩)) else
    pure (.pointer (some s))) w := by kernel_rfl

theorem mark_ptr {a : Addr} {w : World} {v : Value} (hc : w.cell? a = some v) : (convert 61 65 (.pointer (some a))).run Yba.prog w = .ok (.pointer (some a)) w := by
  obtain ⟨e, n, hsh, hlt, hsp⟩ := World.shape?_of_cell? hc
  obtain ⟨i, hi, hz0⟩ := Option.map_eq_some_iff.1 info38
  have hz : i.size ≠ 0 := by simpa using hz0
  have hge : ¬ (n ≤ a.off) := by omega
  rw [mark_form]
  simp [Conv.seenAt, viewAt, cellsIn, Go.sizeOf, typeInfo, hi, hz, hsh, hge, Result.andThen]

theorem and_none : bits BinOp.and IntKind.i32 0 5 = 0 := by kernel_rfl

set_option maxRecDepth 100000 in
set_option maxHeartbeats 800000 in
/-- '(*internal/sync.Mutex).TryLock', the lock free and nobody waiting (state 0): true, state 1. -/
theorem itry_free (a : Addr) (w : World) (hc : w.cell? a = some (.int .i32 0)) (hz : w.frozen? a = false) :
    Calls Yba.prog 9 #[.pointer (some a)] w fun e w' => e = .returned (.bool true) ∧ w' = w.setCell a (.int .i32 1) := by
  have hd := disable Yba.muLib
  have he := enable Yba.muLib
  have ha := acquire Yba.muLib
  have hb := and_none
  have hcas := run_call_cas_hit (P := Yba.prog) Yba.muLib.f_cas32 (by kernel_rfl) (by kernel_rfl) (by kernel_rfl) .i32 (by kernel_rfl) (y := 1) hc hz
  have hc' : (w.setCell a (.int .i32 1)).cell? a = some (.int .i32 1) := by simp [go_sem, hc]
  have hcv := mark_ptr hc'
  go_enter Yba.func9, Yba.ntmps9
  go_wp2
  go_ret
  exact ⟨rfl, rfl⟩

set_option maxHeartbeats 800000 in
/-- '(*sync.Mutex).TryLock', the lock free and nobody waiting. -/
theorem try_free (a : Addr) (w : World) (hc : w.cell? a = some (.int .i32 0)) (hz : w.frozen? a = false) :
    Calls Yba.prog 6 #[.pointer (some a)] w fun e w' => e = .returned (.bool true) ∧ w' = w.setCell a (.int .i32 1) := by
  go_enter Yba.func6, Yba.ntmps6
  go_wp2_with (go_at_call 9; refine (itry_free a _ hc hz).mono ?_; rintro e w' ⟨rfl, rfl⟩)
  go_ret
  exact ⟨rfl, rfl⟩

set_option maxHeartbeats 1000000 in
theorem law_reports (a0 a1 : Int) (w : World) :
    Calls Yba.prog 3 #[.int .i64 a0, .int .i64 a1] w fun e w' => e = .returned (.bool true) ∧ Below w.heap.size w w' := by
  have hn0 : (a0 != a0) = false := by simp
  have hn1 : (a1 != a1) = false := by simp
  go_enter Yba.func3, Yba.ntmps3
  go_wp2_with fail
  have HB : Hid (Below w.heap.size w (w.alloc (evBlock a0 a1))) := (Below.refl _ _).alloc (Nat.le_refl _) _
  refine (memory_keeps w.heap.size w.heap.size a0 a1 _ (Nat.le_refl _) (evBlock_ev w a0 a1)).mono ?_
  rintro e w2 ⟨rfl, hev, hbel⟩
  have h1 := hev.jd
  have h2 := hev.mem
  have HE : Hid (Ev w2 w.heap.size a0 a1) := hev
  have HL : Hid (Below w.heap.size w w2) := HB.out.trans hbel
  clear hev hbel HB
  go_wp2_with fail
  clear h1 h2
  refine (try_free ⟨w.heap.size, 10, none⟩ w2 HE.out.mu HE.out.fz).mono ?_
  rintro e w3 ⟨rfl, rfl⟩
  go_wp2_with fail
  refine (unlock_held Yba.muLib ⟨w.heap.size, 10, none⟩ _ (World.cell?_setCell_same w2 ⟨w.heap.size, 10, none⟩ (.int .i32 1) HE.out.mu) (by simp [HE.out.fz])).mono ?_
  rintro e w3 ⟨rfl, rfl⟩
  go_wp2_with fail
  have HL2 : Hid (Below w.heap.size w ((w2.setCell ⟨w.heap.size, 10, none⟩ (.int .i32 1)).setCell ⟨w.heap.size, 10, none⟩ (.int .i32 0))) := (HL.out.setCell (Nat.le_refl _) _).setCell (Nat.le_refl _) _
  refine (memory_keeps w.heap.size w.heap.size a0 a1 _ (Nat.le_refl _) HE.out.again).mono ?_
  rintro e w4 ⟨rfl, hev, hbel⟩
  have HL3 : Hid (Below w.heap.size w w4) := HL2.out.trans hbel
  clear hev hbel
  go_wp2_with fail
  go_ret
  exact ⟨rfl, HL3.out⟩
end Go.Proofs.Ybulkcvsc
