import Derived.Test.YbulkcvpyFirst
namespace Go.Proofs.Ybulkcvpy
open Go.RowKit
set_option linter.unusedVariables false

/-- The first place of the string at place k: at or ahead of k. -/
theorem IsFirst.of_member {ss : List ByteArray} {n k : Nat} {r : Int} (hk : k < n) (h : IsFirst ss n (sAt ss k) r) :
    ∃ q : Nat, q ≤ k ∧ r = q ∧ ((sAt ss q).toList == (sAt ss k).toList) = true ∧ ∀ j, j < q → ((sAt ss j).toList == (sAt ss k).toList) = false := by
  rcases h with ⟨_, h⟩ | ⟨q, hq, rfl, he, h⟩
  · have := h k hk; simp at this
  · refine ⟨q, ?_, rfl, he, h⟩
    rcases Nat.lt_or_ge k q with e | e
    · have := h k e; simp at this
    · exact e

set_option maxHeartbeats 800000 in
theorem law_member_long (ao : Option Addr) (n cap : Nat) (p : Int) (w : World) (hn : 1024 < n) :
    Calls Yba.prog 4 #[.slice ao n cap, .int .u16 p] w fun e w' => e = .returned (.bool true) ∧ Below w.heap.size w w' := by
  have hd : (1024 : Int) < n := by omega
  go_enter Yba.func4, Yba.ntmps4
  go_wp2
  go_ret
  exact ⟨rfl, Below.refl _ _⟩

set_option maxHeartbeats 800000 in
theorem law_member_none (ao : Option Addr) (cap : Nat) (p : Int) (w : World) :
    Calls Yba.prog 4 #[.slice ao 0 cap, .int .u16 p] w fun e w' => e = .returned (.bool true) ∧ Below w.heap.size w w' := by
  go_enter Yba.func4, Yba.ntmps4
  go_wp2_with fail
  have HP : Hid ((w.alloc (status (.slice none 0 0))).cell? ⟨w.heap.size, 3, none⟩ = some (.slice none 0 0)) := status_at _ _
  refine (place_none w.heap.size [] _ _ HP.out).mono ?_
  rintro e w' ⟨⟨r, rfl, hr⟩, rfl⟩
  have hr1 : r = -1 := by
    rcases hr with ⟨h, _⟩ | ⟨k, hk, _⟩
    · exact h
    · exact absurd hk (Nat.not_lt_zero _)
  subst hr1
  clear hr
  go_wp2_with fail
  go_ret
  exact ⟨rfl, (Below.refl _ _).alloc (Nat.le_refl _) _⟩

set_option maxHeartbeats 1000000 in
theorem law_member_row (b off n cap p k : Nat) (ss : List ByteArray) (w : World) (hn : n ≤ 1024) (hpos : 0 < n) (hp : p ≤ 65535) (hb : b < w.heap.size)
    (hk : k < n) (hmod : (p : Int) % (n : Int) = (k : Int))
    (hc : ∀ j, j < n → w.cell? ⟨b, off + j, none⟩ = some (.string (sAt ss j))) :
    Calls Yba.prog 4 #[.slice (some ⟨b, off, none⟩) n cap, .int .u16 p] w fun e w' => e = .returned (.bool true) ∧ Below w.heap.size w w' := by
  obtain ⟨i0, hi, hz0, hz1, hz2⟩ := info_parts Yba.info9
  have HC : Hid (∀ j, j < n → w.cell? ⟨b, off + j, none⟩ = some (.string (sAt ss j))) := hc
  clear hc
  have hd : decide (1024 < (n : Int)) = false := by simp; omega
  have h0 : ((n : Int) == 0) = false := by simp; omega
  go_enter Yba.func4, Yba.ntmps4
  go_wp2_with (at_builtin; refine wpList_append_own _ rfl (.const (.slice none 0 0)) (.tmp 27) 22 rfl w.heap.size 9 i0 (.string ⟨#[]⟩) 1 16 Yba.underlying22 hi hz0 hz1 hz2 rfl (by decide) (.slice none 0 0) 0 [] rfl (World.ownsRow_nil _ _ _ _) ⟨b, off, none⟩ n cap (rowOf ss n) rfl (rowOf_length _ _) (rowOf_cells HC.out) (rowOf_one _ _) ?c1 ?c2 ?c3 ?_)
  case c1 => unfold maxLen; omega
  case c2 => omega
  case c3 => exact Nat.le_refl _
  intro v' w1 hown hgrow _
  have hb1 : Below w.heap.size w w1 := (Below.refl _ _).grown hgrow (Nat.le_refl _) (fun k hk => by cases hk)
  obtain ⟨g, cap', hv, hg, hgs, hcg⟩ := mine_of hpos hown
  rw [hv]
  clear hown hgrow hv hi hz0 hz1 hz2
  have hbw : b < w1.heap.size := Nat.lt_of_lt_of_le hb hb1.size
  have hcb : ∀ j, j < n → w1.cell? ⟨b, off + j, none⟩ = some (.string (sAt ss j)) := fun j hj => (hb1.cell (p := ⟨b, off + j, none⟩) hb).trans (HC.out j hj)
  have hck := hcb k hk
  have HB : Hid (∀ j, j < n → (w1.alloc (status (.slice (some ⟨g, 0, none⟩) n cap'))).cell? ⟨b, off + j, none⟩ = some (.string (sAt ss j))) := status_past hbw hcb
  have HG : Hid (∀ j, j < n → (w1.alloc (status (.slice (some ⟨g, 0, none⟩) n cap'))).cell? ⟨g, 0 + j, none⟩ = some (.string (sAt ss j))) := status_past hgs hcg
  have HL : Hid (Below w.heap.size w (w1.alloc (status (.slice (some ⟨g, 0, none⟩) n cap')))) := hb1.alloc hb1.size _
  have HP : Hid ((w1.alloc (status (.slice (some ⟨g, 0, none⟩) n cap'))).cell? ⟨w1.heap.size, 3, none⟩ = some (.slice (some ⟨g, 0, none⟩) n cap')) := status_at _ _
  clear hcb hcg hb1
  go_wp2_with fail
  refine (place_row w1.heap.size g 0 n cap' ss (sAt ss k) _ hn HP.out HG.out).mono ?_
  rintro e w' ⟨⟨r, rfl, hr⟩, rfl⟩
  obtain ⟨q, hqk, rfl, hne, hlow⟩ := hr.of_member hk
  have hB := HB.out
  have hL := HL.out
  clear HP HG HB HL hr hck
  generalize w1.alloc (status (.slice (some ⟨g, 0, none⟩) n cap')) = W at hB hL ⊢
  have HL : Hid (Below w.heap.size w W) := hL
  have HB : Hid (∀ j, j < n → W.cell? ⟨b, off + j, none⟩ = some (.string (sAt ss j))) := hB
  have HQ : Hid (∀ j, j < q → ((sAt ss j).toList == (sAt ss k).toList) = false) := hlow
  have hcq := hB q (by omega)
  have hck := hB k hk
  clear hL hB hlow
  have hqi : (q : Int) < (n : Int) := by omega
  have hki : (k : Int) < (n : Int) := by omega
  have hd1 : decide ((q : Int) < 0) = false := by simp
  have hd2 : decide (k < q) = false := by simp; omega
  go_wp2_with fail
  go_quiet (fail)
  go_wp2_with fail
  go_loopw [10] (fun i wr => ∃ t : Nat, t ≤ q ∧ i = .int .i64 t ∧ Hid (∃ m, wr = W.drewN m)) (fun i _ => q - (intOf i).toNat)
  case atStart => exact ⟨0, Nat.zero_le _, rfl, ⟨nq, rfl⟩⟩
  case round =>
    obtain ⟨t, ht, rfl, HW⟩ := hrel
    by_cases hlt : t < q
    · have hct : wr.cell? ⟨b, off + t, none⟩ = some (.string (sAt ss t)) := by obtain ⟨m, e⟩ := HW.out; rw [e]; simpa using HB.out t (by omega)
      have hck' : wr.cell? ⟨b, off + k, none⟩ = some (.string (sAt ss k)) := by obtain ⟨m, e⟩ := HW.out; rw [e]; simpa using hck
      have hti : (t : Int) < (n : Int) := by omega
      have hf := HQ.out t hlt
      clear hcq hck hne
      go_wp2
      go_quiet (fail)
      go_wp2
      go_roundw
      case rel => exact ⟨t + 1, by omega, by go_num, by obtain ⟨m, e⟩ := HW.out; exact ⟨m + nq, by rw [e, World.drewN_drewN]⟩⟩
      case measure => simp [intOf]; omega
    · go_wp2
      go_ret
      obtain ⟨m, e⟩ := HW.out
      exact ⟨rfl, by rw [e]; exact below_drewN HL.out _⟩
end Go.Proofs.Ybulkcvpy
