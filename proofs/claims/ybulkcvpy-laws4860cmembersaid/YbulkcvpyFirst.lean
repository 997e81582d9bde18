import Derived.Test.YbulkcvpyPlaces
import Derived.Laws.AppendOwnNone
namespace Go.Proofs.Ybulkcvpy
open Go.RowKit
set_option linter.unusedVariables false

theorem Yba.info9 : (Yba.prog.info? 9).map (fun i => (i.zero, i.size, i.bytes)) = some (some (.string ⟨#[]⟩), 1, 16) := by kernel_rfl

/-- the cells of n strings -/
def rowOf (ss : List ByteArray) (n : Nat) : List Value := (List.range n).map fun j => .string (sAt ss j)
theorem rowOf_length (ss : List ByteArray) (n : Nat) : (rowOf ss n).length = n * 1 := by simp [rowOf]
theorem rowOf_at {ss : List ByteArray} {n j : Nat} {u : Value} (h : (rowOf ss n)[j]? = some u) : j < n ∧ u = .string (sAt ss j) := by
  have hj : j < n := by have := (List.getElem?_eq_some_iff.1 h).1; simpa [rowOf] using this
  refine ⟨hj, ?_⟩
  simp [rowOf, hj] at h
  exact h.symm
theorem rowOf_get (ss : List ByteArray) {n j : Nat} (hj : j < n) : (rowOf ss n)[j]? = some (.string (sAt ss j)) := by simp [rowOf, hj]
theorem rowOf_one (ss : List ByteArray) (n : Nat) : ∀ u ∈ rowOf ss n, u.oneCell' = true := by
  intro u hu
  simp only [rowOf, List.mem_map] at hu
  obtain ⟨j, _, rfl⟩ := hu
  rfl
theorem rowOf_cells {w : World} {ss : List ByteArray} {b off n : Nat} (hc : ∀ j, j < n → w.cell? ⟨b, off + j, none⟩ = some (.string (sAt ss j))) :
    ∀ j u, (rowOf ss n)[j]? = some u → w.cell? ((⟨b, off, none⟩ : Addr).add j) = some u := by
  intro j u hu
  obtain ⟨hj, rfl⟩ := rowOf_at hu
  rw [Go.WideShapes.add_plain]
  exact hc j hj

/-- What 'append([]string(nil), authors...)' has made of at least one string. -/
theorem mine_of {w1 : World} {base n : Nat} {v : Value} {ss : List ByteArray} (hpos : 0 < n) (h : w1.ownsRow base 9 1 v n (rowOf ss n)) :
    ∃ g cap, v = .slice (some ⟨g, 0, none⟩) n cap ∧ base ≤ g ∧ g < w1.heap.size ∧ ∀ j, j < n → w1.cell? ⟨g, 0 + j, none⟩ = some (.string (sAt ss j)) := by
  have h' := h
  rcases h.2 with ⟨_, h0⟩ | ⟨g, cap, cur, rfl, hb, hg, _⟩
  · omega
  · refine ⟨g, cap, rfl, hb, (Array.getElem?_eq_some_iff.1 hg).1, fun j hj => ?_⟩
    rw [Nat.zero_add, h'.cellAt j (by omega), rowOf_get ss hj]

/-- The new Status that holds the slice v as its authors. -/
def status (v : Value) : Obj := .cells #[.pointer none, .slice none 0 0, .map none, v, .slice none 0 0] 29
theorem status_at (w1 : World) (v : Value) : (w1.alloc (status v)).cell? ⟨w1.heap.size, 3, none⟩ = some v := by
  unfold status
  rw [World.cell?_alloc_at _ _ _ _ rfl]
  rfl
theorem status_past {w1 : World} {v : Value} {b off n : Nat} {ss : List ByteArray} (hb : b < w1.heap.size) (hc : ∀ j, j < n → w1.cell? ⟨b, off + j, none⟩ = some (.string (sAt ss j))) :
    ∀ j, j < n → (w1.alloc (status v)).cell? ⟨b, off + j, none⟩ = some (.string (sAt ss j)) := by
  intro j hj
  rw [World.cell?_alloc_past _ _ _ hb]
  exact hc j hj

set_option maxHeartbeats 800000 in
theorem law_first_row (b off n cap : Nat) (ss : List ByteArray) (x : ByteArray) (w : World) (hn : n ≤ 1024) (hpos : 0 < n) (hb : b < w.heap.size)
    (hc : ∀ j, j < n → w.cell? ⟨b, off + j, none⟩ = some (.string (sAt ss j))) :
    Calls Yba.prog 3 #[.slice (some ⟨b, off, none⟩) n cap, .string x] w fun e w' => e = .returned (.bool true) ∧ Below w.heap.size w w' := by
  obtain ⟨i0, hi, hz0, hz1, hz2⟩ := info_parts Yba.info9
  have HC : Hid (∀ j, j < n → w.cell? ⟨b, off + j, none⟩ = some (.string (sAt ss j))) := hc
  clear hc
  have hd : decide (1024 < (n : Int)) = false := by simp; omega
  go_enter Yba.func3, Yba.ntmps3
  go_wp2_with (at_builtin; refine wpList_append_own _ rfl (.const (.slice none 0 0)) (.tmp 11) 22 rfl w.heap.size 9 i0 (.string ⟨#[]⟩) 1 16 Yba.underlying22 hi hz0 hz1 hz2 rfl (by decide) (.slice none 0 0) 0 [] rfl (World.ownsRow_nil _ _ _ _) ⟨b, off, none⟩ n cap (rowOf ss n) rfl (rowOf_length _ _) (rowOf_cells HC.out) (rowOf_one _ _) ?c1 ?c2 ?c3 ?_)
  case c1 => unfold maxLen; omega
  case c2 => omega
  case c3 => exact Nat.le_refl _
  intro v' w1 hown hgrow _
  have hb1 : Below w.heap.size w w1 := (Below.refl _ _).grown hgrow (Nat.le_refl _) (fun k hk => by cases hk)
  obtain ⟨g, cap', hv, hg, hgs, hcg⟩ := mine_of hpos hown
  rw [hv]
  clear hown hgrow hv hi hz0 hz1 hz2
  go_wp2_with fail
  have hbw : b < w1.heap.size := Nat.lt_of_lt_of_le hb hb1.size
  have hcb : ∀ j, j < n → w1.cell? ⟨b, off + j, none⟩ = some (.string (sAt ss j)) := fun j hj => (hb1.cell (p := ⟨b, off + j, none⟩) hb).trans (HC.out j hj)
  have HP : Hid ((w1.alloc (status (.slice (some ⟨g, 0, none⟩) n cap'))).cell? ⟨w1.heap.size, 3, none⟩ = some (.slice (some ⟨g, 0, none⟩) n cap')) := status_at _ _
  have HG : Hid (∀ j, j < n → (w1.alloc (status (.slice (some ⟨g, 0, none⟩) n cap'))).cell? ⟨g, 0 + j, none⟩ = some (.string (sAt ss j))) := status_past hgs hcg
  have HB : Hid (∀ j, j < n → (w1.alloc (status (.slice (some ⟨g, 0, none⟩) n cap'))).cell? ⟨b, off + j, none⟩ = some (.string (sAt ss j))) := status_past hbw hcb
  have HL : Hid (Below w.heap.size w (w1.alloc (status (.slice (some ⟨g, 0, none⟩) n cap')))) := hb1.alloc hb1.size _
  clear hcg hcb hb1
  refine (place_row w1.heap.size g 0 n cap' ss x _ hn HP.out HG.out).mono ?_
  rintro e w' ⟨⟨r, rfl, hr⟩, rfl⟩
  have HR : Hid (IsFirst ss n x r) := hr
  clear hr
  go_wp2_with fail
  refine (first_row b off n cap ss x _ hn HB.out).mono ?_
  rintro e w' ⟨⟨r', rfl, hr'⟩, rfl⟩
  obtain rfl : r = r' := HR.out.one hr'
  clear hr'
  have hp := HP.out
  go_wp2_with fail
  refine (same_row g 0 cap' b off cap n ss _ hn HG.out HB.out).mono ?_
  rintro e w' ⟨rfl, m, rfl⟩
  go_wp2_with fail
  go_ret
  exact ⟨rfl, below_drewN HL.out _⟩

set_option maxHeartbeats 800000 in
theorem law_first_nil (x : ByteArray) (w : World) :
    Calls Yba.prog 3 #[.slice none 0 0, .string x] w fun e w' => e = .returned (.bool true) ∧ Below w.heap.size w w' := by
  obtain ⟨i0, hi, hz0, hz1, hz2⟩ := info_parts Yba.info9
  go_enter Yba.func3, Yba.ntmps3
  go_wp2_with (at_builtin; refine wpList_append_own_none rfl (.const (.slice none 0 0)) (.tmp 11) 22 rfl w.heap.size 9 i0 1 Yba.underlying22 hi (.slice none 0 0) 0 [] rfl (World.ownsRow_nil _ _ _ _) rfl ?_)
  go_wp2_with fail
  have HP : Hid ((w.alloc (status (.slice none 0 0))).cell? ⟨w.heap.size, 3, none⟩ = some (.slice none 0 0)) := status_at _ _
  have HL : Hid (Below w.heap.size w (w.alloc (status (.slice none 0 0)))) := (Below.refl _ _).alloc (Nat.le_refl _) _
  refine (place_none w.heap.size [] x _ HP.out).mono ?_
  rintro e w' ⟨⟨r, rfl, hr⟩, rfl⟩
  have HR : Hid (IsFirst [] 0 x r) := hr
  clear hr
  go_wp2_with fail
  refine (first_none none 0 [] x _).mono ?_
  rintro e w' ⟨⟨r', rfl, hr'⟩, rfl⟩
  obtain rfl : r = r' := HR.out.one hr'
  clear hr'
  have hp := HP.out
  go_wp2_with fail
  refine (same_none none none 0 0 _).mono ?_
  rintro e w' ⟨rfl, m, rfl⟩
  go_wp2_with fail
  go_ret
  exact ⟨rfl, below_drewN HL.out _⟩

set_option maxHeartbeats 800000 in
theorem law_first_bare (a : Addr) (cap : Nat) (x : ByteArray) (w : World) :
    Calls Yba.prog 3 #[.slice (some a) 0 cap, .string x] w fun e w' => e = .returned (.bool true) ∧ Below w.heap.size w w' := by
  obtain ⟨i0, hi, hz0, hz1, hz2⟩ := info_parts Yba.info9
  go_enter Yba.func3, Yba.ntmps3
  go_wp2_with (at_builtin; refine wpList_append_own _ rfl (.const (.slice none 0 0)) (.tmp 11) 22 rfl w.heap.size 9 i0 (.string ⟨#[]⟩) 1 16 Yba.underlying22 hi hz0 hz1 hz2 rfl (by decide) (.slice none 0 0) 0 [] rfl (World.ownsRow_nil _ _ _ _) a 0 cap [] rfl rfl (fun j u h => by simp at h) (fun u h => by simp at h) ?c1 ?c2 ?c3 ?_)
  case c1 => unfold maxLen; omega
  case c2 => omega
  case c3 => exact Nat.le_refl _
  intro v' w1 hown hgrow hnil
  have hb1 : Below w.heap.size w w1 := (Below.refl _ _).grown hgrow (Nat.le_refl _) (fun k hk => by cases hk)
  have hv : v' = .slice none 0 0 := by simpa using hnil
  rw [hv]
  clear hown hgrow hnil hv hi hz0 hz1 hz2
  go_wp2_with fail
  have HP : Hid ((w1.alloc (status (.slice none 0 0))).cell? ⟨w1.heap.size, 3, none⟩ = some (.slice none 0 0)) := status_at _ _
  have HL : Hid (Below w.heap.size w (w1.alloc (status (.slice none 0 0)))) := hb1.alloc hb1.size _
  refine (place_none w1.heap.size [] x _ HP.out).mono ?_
  rintro e w' ⟨⟨r, rfl, hr⟩, rfl⟩
  have HR : Hid (IsFirst [] 0 x r) := hr
  clear hr
  go_wp2_with fail
  refine (first_none (some a) cap [] x _).mono ?_
  rintro e w' ⟨⟨r', rfl, hr'⟩, rfl⟩
  obtain rfl : r = r' := HR.out.one hr'
  clear hr'
  have hp := HP.out
  go_wp2_with fail
  refine (same_none none (some a) 0 cap _).mono ?_
  rintro e w' ⟨rfl, m, rfl⟩
  go_wp2_with fail
  go_ret
  exact ⟨rfl, below_drewN HL.out _⟩

set_option maxHeartbeats 800000 in
theorem law_first_long (ao : Option Addr) (n cap : Nat) (x : ByteArray) (w : World) (hn : 1024 < n) :
    Calls Yba.prog 3 #[.slice ao n cap, .string x] w fun e w' => e = .returned (.bool true) ∧ Below w.heap.size w w' := by
  have hd : (1024 : Int) < n := by omega
  go_enter Yba.func3, Yba.ntmps3
  go_wp2
  go_ret
  exact ⟨rfl, Below.refl _ _⟩
end Go.Proofs.Ybulkcvpy
