import Derived.Test.YbulkcvscRows
import Derived.Test.YbulkcvscLocks
import Derived.Conc.MuLone
import Derived.WalkKit
import Derived.WalkSpells
import Derived.WalkLawsBesides
namespace Go.Proofs.Ybulkcvsc
open Go.RowKit Go.MuLone
set_option linter.unusedVariables false

/-- An Evaluator at the head of block b: its lock free, its two counts. -/
structure Ev (w : World) (b : Nat) (m j : Int) : Prop where
  mu : w.cell? ⟨b, 10, none⟩ = some (.int .i32 0)
  jd : w.cell? ⟨b, 13, none⟩ = some (.int .i64 j)
  mem : w.cell? ⟨b, 14, none⟩ = some (.int .i64 m)
  fz : w.frozen? ⟨b, 10, none⟩ = false

theorem Ev.again {w : World} {b : Nat} {m j : Int} (h : Ev w b m j) : Ev ((w.setCell ⟨b, 10, none⟩ (.int .i32 1)).setCell ⟨b, 10, none⟩ (.int .i32 0)) b m j :=
  ⟨World.cell?_setCell_same _ _ _ (World.cell?_setCell_same w _ _ h.mu),
   (World.cell?_setCell_other _ ⟨b, 10, none⟩ ⟨b, 13, none⟩ _ (by simp)).trans ((World.cell?_setCell_other w ⟨b, 10, none⟩ ⟨b, 13, none⟩ _ (by simp)).trans h.jd),
   (World.cell?_setCell_other _ ⟨b, 10, none⟩ ⟨b, 14, none⟩ _ (by simp)).trans ((World.cell?_setCell_other w ⟨b, 10, none⟩ ⟨b, 14, none⟩ _ (by simp)).trans h.mem),
   by simp [h.fz]⟩

set_option maxHeartbeats 800000 in
theorem memory_any (b : Nat) (m j : Int) (w : World) (h : Ev w b m j) :
    Calls Yba.prog 5 #[.pointer (some ⟨b, 0, none⟩)] w fun e w' => e = .returned (.int .i64 m) ∧
      w' = (w.setCell ⟨b, 10, none⟩ (.int .i32 1)).setCell ⟨b, 10, none⟩ (.int .i32 0) := by
  have h0 := h.mu
  have h1 := h.mem
  have f0 := h.fz
  clear h
  go_enter_defers Yba.func5, Yba.ntmps5
  go_wp2_with (go_at_call 8; refine (lock_free Yba.muLib ⟨b, 10, none⟩ _ h0 f0).mono ?_; rintro e w' ⟨rfl, rfl⟩)
  refine leaves_cons (f := 7) (args := #[.pointer (some ⟨b, 10, none⟩)]) (by simp) (by simp [go_sem]) ?_
  refine (unlock_deferred Yba.muLib ⟨b, 10, none⟩ .returning _ ?_ ?_).mono ?_
  · exact World.cell?_setCell_same w ⟨b, 10, none⟩ (.int .i32 1) h0
  · simp [f0]
  rintro e u' w'' ⟨rfl, rfl, rfl⟩
  exact ⟨_, results_tmp rfl _ _ _, rfl, rfl⟩

/-- Memory: the count; the Evaluator's lock and counts read behind it as before; nothing ahead of its block has turned. -/
theorem memory_keeps (B b : Nat) (m j : Int) (w : World) (hB : B ≤ b) (h : Ev w b m j) :
    Calls Yba.prog 5 #[.pointer (some ⟨b, 0, none⟩)] w fun e w' => e = .returned (.int .i64 m) ∧ Ev w' b m j ∧ Below B w w' :=
  (memory_any b m j w h).mono fun e w' ⟨he, hw⟩ => ⟨he, by rw [hw]; exact h.again, by rw [hw]; exact ((Below.refl B w).setCell hB _).setCell hB _⟩

/-- The new Evaluator that a law makes. -/
def evBlock (m j : Int) : Obj := .cells #[.slice none 0 0, .map none, .map none, .int .i64 0, .nilIface, .int .i64 0, .int .i64 0, .int .u64 0, .int .i64 0, .pointer none, .int .i32 0, .int .u32 0, .map none, .int .i64 j, .int .i64 m, .slice none 0 0, .slice none 0 0, .int .u64 0, .map none, .map none, .int .u64 0, .int .i64 0, .pointer none, .bool false, .bool false, .slice none 0 0, .slice none 0 0, .slice none 0 0, .map none] 55
theorem evBlock_ev (w : World) (m j : Int) : Ev (w.alloc (evBlock m j)) w.heap.size m j :=
  ⟨by unfold evBlock; rw [World.cell?_alloc_at _ _ _ _ rfl]; rfl,
   by unfold evBlock; rw [World.cell?_alloc_at _ _ _ _ rfl]; rfl,
   by unfold evBlock; rw [World.cell?_alloc_at _ _ _ _ rfl]; rfl,
   by unfold evBlock; exact World.frozen?_alloc_at _ _ _ _ rfl⟩

end Go.Proofs.Ybulkcvsc
