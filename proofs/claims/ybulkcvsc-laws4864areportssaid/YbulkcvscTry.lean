import Derived.Test.YbulkcvscMem
namespace Go.Proofs.Ybulkcvsc
open Go.RowKit Go.MuLone Go.Conc.Locks
set_option linter.unusedVariables false

theorem and_none : bits BinOp.and IntKind.i32 0 5 = 0 := by kernel_rfl

set_option maxRecDepth 100000 in
set_option maxHeartbeats 800000 in
/-- '(*internal/sync.Mutex).TryLock', the lock free and nobody waiting (state 0): true, state 1. -/
theorem itry_free (a : Addr) (w : World) (hc : w.cell? a = some (.int .i32 0)) (hz : w.frozen? a = false) :
    Calls Yba.prog 9 #[.pointer (some a)] w fun e w' => e = .returned (.bool true) ∧ w' = w.setCell a (.int .i32 1) := by
  have hd := disable Yba.muLib
  have he := enable Yba.muLib
  have ha := acquire Yba.muLib
  have hb := and_none
  have hcas := run_call_cas_hit (P := Yba.prog) Yba.muLib.f_cas32 (by kernel_rfl) (by kernel_rfl) (by kernel_rfl) .i32 (by kernel_rfl) (y := 1) hc hz
  have hc' : (w.setCell a (.int .i32 1)).cell? a = some (.int .i32 1) := by simp [go_sem, hc]
  have hcv := run_convert_to_unsafe (P := Yba.prog) (src := 61) (dst := 65) Yba.underlying61 Yba.underlying65 Yba.muLib.room_tIMutex hc'
  go_enter Yba.func9, Yba.ntmps9
  go_wp2
  go_ret
  exact ⟨rfl, rfl⟩

set_option maxHeartbeats 800000 in
/-- '(*sync.Mutex).TryLock', the lock free and nobody waiting. -/
theorem try_free (a : Addr) (w : World) (hc : w.cell? a = some (.int .i32 0)) (hz : w.frozen? a = false) :
    Calls Yba.prog 6 #[.pointer (some a)] w fun e w' => e = .returned (.bool true) ∧ w' = w.setCell a (.int .i32 1) := by
  go_enter Yba.func6, Yba.ntmps6
  go_wp2_with (go_at_call 9; refine (itry_free a _ hc hz).mono ?_; rintro e w' ⟨rfl, rfl⟩)
  go_ret
  exact ⟨rfl, rfl⟩

set_option maxHeartbeats 1000000 in
theorem law_reports (a0 a1 : Int) (w : World) :
    Calls Yba.prog 3 #[.int .i64 a0, .int .i64 a1] w fun e w' => e = .returned (.bool true) ∧ Below w.heap.size w w' := by
  have hn0 : (a0 != a0) = false := by simp
  have hn1 : (a1 != a1) = false := by simp
  go_enter Yba.func3, Yba.ntmps3
  go_wp2_with fail
  have HB : Hid (Below w.heap.size w (w.alloc (evBlock a0 a1))) := (Below.refl _ _).alloc (Nat.le_refl _) _
  refine (memory_keeps w.heap.size w.heap.size a0 a1 _ (Nat.le_refl _) (evBlock_ev w a0 a1)).mono ?_
  rintro e w2 ⟨rfl, hev, hbel⟩
  have h1 := hev.jd
  have h2 := hev.mem
  have HE : Hid (Ev w2 w.heap.size a0 a1) := hev
  have HL : Hid (Below w.heap.size w w2) := HB.out.trans hbel
  clear hev hbel HB
  go_wp2_with fail
  clear h1 h2
  refine (try_free ⟨w.heap.size, 10, none⟩ w2 HE.out.mu HE.out.fz).mono ?_
  rintro e w3 ⟨rfl, rfl⟩
  go_wp2_with fail
  refine (unlock_held Yba.muLib ⟨w.heap.size, 10, none⟩ _ (World.cell?_setCell_same w2 ⟨w.heap.size, 10, none⟩ (.int .i32 1) HE.out.mu) (by simp [HE.out.fz])).mono ?_
  rintro e w3 ⟨rfl, rfl⟩
  go_wp2_with fail
  have HL2 : Hid (Below w.heap.size w ((w2.setCell ⟨w.heap.size, 10, none⟩ (.int .i32 1)).setCell ⟨w.heap.size, 10, none⟩ (.int .i32 0))) := (HL.out.setCell (Nat.le_refl _) _).setCell (Nat.le_refl _) _
  refine (memory_keeps w.heap.size w.heap.size a0 a1 _ (Nat.le_refl _) HE.out.again).mono ?_
  rintro e w4 ⟨rfl, hev, hbel⟩
  have HL3 : Hid (Below w.heap.size w w4) := HL2.out.trans hbel
  clear hev hbel
  go_wp2_with fail
  go_ret
  exact ⟨rfl, HL3.out⟩
end Go.Proofs.Ybulkcvsc
