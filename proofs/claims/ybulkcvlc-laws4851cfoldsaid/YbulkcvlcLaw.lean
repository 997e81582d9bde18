import Derived.Test.YbulkcvlcFold
import Derived.Lib.SlBytesRow
namespace Go.Proofs.Ybulkcvlc
open Go.RowKit
set_option linter.unusedVariables false

theorem fold_any (a b : ByteArray) (w : World) (ha : a.size ≤ 4096) (hb : b.size ≤ 4096)
    (HE : Hid (∀ (i : Nat) (p : i < a.size) (q : i < b.size), low (a[i]'p).toNat = low (b[i]'q).toNat)) :
    Calls Yba.prog 8 #[.string a, .string b] w fun e w' => e = .returned (.int .i64 (sgn a.size b.size)) ∧ ∃ n, w' = w.drewN n := by
  by_cases h : a.size ≤ b.size
  · exact fold_le a b w ha hb h HE
  · exact fold_gt a b w ha hb (by omega) HE

def uppB (c : UInt8) : UInt8 := UInt8.ofNat (upp c.toNat).toNat
def capsOf (s : ByteArray) : ByteArray := ⟨s.data.map uppB⟩
theorem uppB_toNat (c : UInt8) : ((uppB c).toNat : Int) = upp c.toNat := by
  have h := byte_bd c
  have hu : 0 ≤ upp c.toNat ∧ upp c.toNat ≤ 255 := by unfold upp; split <;> omega
  unfold uppB
  rw [UInt8.toNat_ofNat']
  omega
theorem capsOf_size (s : ByteArray) : (capsOf s).size = s.size := by
  show (s.data.map uppB).size = s.data.size
  simp
theorem capsOf_at (s : ByteArray) (i : Nat) (h : i < s.size) (h' : i < (capsOf s).size) : (((capsOf s)[i]'h').toNat : Int) = upp (s[i]'h).toNat := by
  rw [← uppB_toNat]
  have : (capsOf s)[i]'h' = uppB (s[i]'h) := by
    show (s.data.map uppB)[i]'(by simpa using h) = uppB (s.data[i]'h)
    simp
  rw [this]
theorem low_upp (c : UInt8) : low (upp c.toNat) = low c.toNat := by
  have h := byte_bd c
  unfold low upp
  split <;> split <;> (try split) <;> omega

theorem size_more (s : ByteArray) (c : UInt8) : (s ++ (⟨#[c]⟩ : ByteArray)).size = s.size + 1 := by
  rw [ByteArray.size_append]; rfl
theorem more_at (s : ByteArray) (c : UInt8) (i : Nat) (h : i < s.size) (h' : i < (s ++ (⟨#[c]⟩ : ByteArray)).size) : (s ++ (⟨#[c]⟩ : ByteArray))[i]'h' = s[i]'h :=
  ByteArray.getElem_append_left h

theorem Yba.info5 : (Yba.prog.info? 5).map (fun i => (i.zero, i.size, i.bytes)) = some (some (.int .u8 0), 1, 1) := by kernel_rfl

/-- What the loop holds behind k rounds: the row's first k cells are the capitals. -/
structure Row (s : ByteArray) (w wr : World) (k : Nat) (xs : List Value) : Prop where
  own : wr.ownsRow w.heap.size 5 1 (.slice (some ⟨w.heap.size, 0, none⟩) s.size s.size) s.size xs
  put : ∀ (j : Nat) (h : j < s.size), j < k → xs[j]? = some (.int .u8 (upp (s[j]'h).toNat))
  low : Below w.heap.size w wr
theorem Row.len {s : ByteArray} {w wr : World} {k : Nat} {xs : List Value} (h : Row s w wr k xs) : xs.length = s.size := by
  have := h.own.1; simpa using this
theorem Row.cell {s : ByteArray} {w wr : World} {k : Nat} {xs : List Value} (h : Row s w wr k xs) (hk : k < s.size) : ∃ v, wr.cell? ⟨w.heap.size, k, none⟩ = some v := by
  have h1 := h.own.cellAt k (by omega)
  have h2 := h.len
  exact ⟨xs[k], by rw [h1, List.getElem?_eq_getElem]⟩
theorem Row.step {s : ByteArray} {w wr : World} {k : Nat} {xs : List Value} (h : Row s w wr k xs) (hk : k < s.size) :
    ∃ ys, Row s w (wr.setCell ⟨w.heap.size, k, none⟩ (.int .u8 (upp (s[k]'hk).toNat))) (k + 1) ys := by
  have h1 := (h.own.stored k (.int .u8 (upp (s[k]'hk).toNat))).1
  refine ⟨_, h1, fun j hj hjk => ?_, h.low.setCell (Nat.le_refl _) _⟩
  have hl := h.len
  by_cases e : j = k
  · subst e
    rw [List.getElem?_set_self (by omega)]
  · rw [List.getElem?_set_ne (by omega)]
    exact h.put j hj (by omega)
theorem Row.bytes {s : ByteArray} {w wr : World} {xs : List Value} (h : Row s w wr s.size xs) : Lib.Bytes wr w.heap.size 0 (capsOf s) := by
  intro i hi
  have hi' : i < s.size := by rw [← capsOf_size]; exact hi
  have h1 := h.own.cellAt i (by omega)
  rw [Nat.zero_add, h1, h.put i hi' hi', capsOf_at s i hi' hi]

set_option maxHeartbeats 800000 in
theorem law_short (s : ByteArray) (w : World) (hs : s.size ≤ 1024) :
    Calls Yba.prog 4 #[.string s] w fun e w' => e = .returned (.bool true) ∧ Below w.heap.size w w' := by
  obtain ⟨i0, hi, hz0, hz1, hz2⟩ := info_parts Yba.info5
  have hd : decide (1024 < (s.size : Int)) = false := by simp; omega
  go_enter Yba.func4, Yba.ntmps4
  go_wp2_with (refine wpList_make_full _ rfl (.tmp 10) (.tmp 10) 24 rfl w.heap.size 5 i0 (.int .u8 0) 1 Yba.underlying24 hi hz0 hz1 .i64 .i64 s.size s.size s.size rfl rfl rfl rfl ?c1 ?c2 ?c3 ?_)
  case c1 => rw [hz2]; omega
  case c2 => unfold maxLen; omega
  case c3 => exact Nat.le_refl _
  intro w1 hown hgrow
  have HR : Hid (Row s w w1 0 (madeCells #[.int .u8 0] s.size).toList) := by
    refine ⟨hown, fun j _ hj => absurd hj (Nat.not_lt_zero _), (Below.refl _ _).grown hgrow (Nat.le_refl _) (fun k hk => by cases hk)⟩
  clear hown hgrow
  go_wp2
  go_loopw [4] (fun i wr => ∃ (k : Nat) (xs : List Value), k ≤ s.size ∧ i = .int .i64 k ∧ Hid (Row s w wr k xs)) (fun i _ => s.size - (intOf i).toNat)
  case atStart => exact ⟨0, _, Nat.zero_le _, rfl, HR⟩
  case round =>
    obtain ⟨k, xs, hk, rfl, HX⟩ := hrel
    clear HR
    by_cases hlt : k < s.size
    · obtain ⟨v, hc⟩ := Row.cell HX.out hlt
      have hf : wr.frozen? ⟨w.heap.size, k, none⟩ = false := HX.out.own.frozenAt k
      obtain ⟨ys, hy⟩ := Row.step HX.out hlt
      have HY : Hid (Row s w (wr.setCell ⟨w.heap.size, k, none⟩ (.int .u8 (upp (s[k]'hlt).toNat))) (k + 1) ys) := hy
      clear hy
      go_wp2_with (go_at_call 7; refine (upper_any _ _ (byte_bd _).1 (byte_bd _).2).mono ?_; rintro e w' ⟨rfl, rfl⟩)
      go_roundw
      case rel => exact ⟨k + 1, ys, by omega, by go_num, HY⟩
      case measure => simp [intOf]; omega
    · have hkn : k = s.size := by omega
      subst hkn
      have hcv := Lib.run_convert_whole (P := Yba.prog) wr 24 5 9 Yba.underlying24 Yba.underlying5 Yba.underlying9 w.heap.size 0 (capsOf s) HX.out.bytes s.size
      rw [capsOf_size] at hcv
      have HB : Hid (Below w.heap.size w wr) := HX.out.low
      have hcs := capsOf_size s
      have HC : Hid ((capsOf s).size = s.size) := hcs
      have hb1 : (capsOf s).size ≤ 1024 := by omega
      clear HX hcs
      go_wp2_with fail
      clear hcv
      refine (fold_any s (capsOf s) _ (by omega) (by omega) ?_).mono ?_
      · exact fun i p q => by rw [capsOf_at s i p q, low_upp]
      rintro e w2 ⟨rfl, n2, rfl⟩
      rw [sgn_eq (by rw [HC.out])]
      go_wp2_with fail
      refine (fold_any (capsOf s) s _ (by omega) (by omega) ?_).mono ?_
      · exact fun i p q => by rw [capsOf_at s i q p, low_upp]
      rintro e w2 ⟨rfl, n3, rfl⟩
      rw [sgn_eq (by rw [HC.out])]
      go_wp2_with fail
      refine (fold_any (capsOf s) (s ++ ({ data := #[120] } : ByteArray)) _ (by omega) (by rw [size_more]; omega) ?_).mono ?_
      · exact fun i p q => by rw [more_at s 120 i (by rw [← HC.out]; exact p) q, capsOf_at s i (by rw [← HC.out]; exact p) p, low_upp]
      rintro e w2 ⟨rfl, n4, rfl⟩
      rw [sgn_lt (by rw [size_more, HC.out]; omega)]
      go_wp2_with fail
      refine (fold_any (s ++ ({ data := #[88] } : ByteArray)) (capsOf s) _ (by rw [size_more]; omega) (by omega) ?_).mono ?_
      · exact fun i p q => by rw [more_at s 88 i (by rw [← HC.out]; exact q) p, capsOf_at s i (by rw [← HC.out]; exact q) q, low_upp]
      rintro e w2 ⟨rfl, n5, rfl⟩
      rw [sgn_gt (by rw [size_more, HC.out]; omega)]
      go_wp2_with fail
      go_ret
      exact ⟨rfl, below_drewN HB.out _⟩
end Go.Proofs.Ybulkcvlc
