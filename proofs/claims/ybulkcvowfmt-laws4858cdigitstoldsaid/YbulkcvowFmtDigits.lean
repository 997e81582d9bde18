import Derived.Test.YbulkcvowFmtBuf
import Derived.Lib.Strings
namespace Go.Proofs.YbulkcvowFmt
open Go.RowKit Go.Extern.Stop Go.Stop Go.Extern
set_option linter.unusedVariables false

theorem cut_eq (s : ByteArray) (t : Nat) {l : List UInt8} (h : l = s.data.toList.drop t) : (⟨l.toArray⟩ : ByteArray) = s.extract t s.size := by
  apply ByteArray.ext
  apply Array.toList_inj.1
  rw [Lib.extract_data, h]
  show (s.data.toList.drop t).toArray.toList = _
  rw [List.toList_toArray, List.take_of_length_le]
  simp
theorem zero_at (s : ByteArray) (t : Nat) (h : t < s.size) (hz : (s[t]'h).toNat = 48) : (s.data.toList.drop t).dropWhile zero = (s.data.toList.drop (t + 1)).dropWhile zero :=
  strike (by simpa using h) hz
theorem not_zero_at (s : ByteArray) (t : Nat) (h : t < s.size) (hz : ¬ (s[t]'h).toNat = 48) : (s.data.toList.drop t).dropWhile zero = s.data.toList.drop t :=
  struck (by simpa using h) hz
theorem end_at (s : ByteArray) : (s.data.toList.drop s.size).dropWhile zero = [] := by
  rw [drop_end]; rfl
theorem bare_head (d : Nat → Nat) (k : Nat) (r : List UInt8) (h : textAt [] d k = 43 :: r) : False := by
  rcases k with _ | k
  · simp [textAt] at h
  · have h1 := congrArg List.head? h
    simp [textAt, List.range_succ_eq_map] at h1
    have h2 := dig_toNat (d 0)
    rw [h1] at h2
    have h3 : ((43 : UInt8).toNat : Int) = 43 := rfl
    omega
theorem same_text (s : ByteArray) (t : Nat) {l : List UInt8} (h : l = s.data.toList.drop t) : (l == (s.extract t s.size).toList) = true := by
  rw [← cut_eq s t h]; simp

set_option maxHeartbeats 2000000 in
theorem digits_plus (F : Interp) (ao : Option Addr) (n cap : Nat) (d : Nat → Nat) (sg : Int) (w : World) (hn : n ≤ 1024) (hd : ∀ j, d j ≤ 255) (h0 : 0 ≤ sg) (h1 : sg ≤ 255) (hs1 : (sg % 3 == 1) = true) (hs2 : (sg % 3 == 2) = false)
    (hc : ∀ j, j < n → ∃ b off, ao = some ⟨b, off, none⟩ ∧ w.cell? ⟨b, off + j, none⟩ = some (.int .u8 (d j : Int)))
    (hF : F.answers w.tape) (hS : Sents w) (hT : Lib.TabIs Ybaf.prog w tabName .u64 Lib.pow10Tab) (hG : 3 ≤ w.heap.size) :
    Calls Ybaf.prog 4 #[.slice ao n cap, .int .u8 sg] w fun e w' => e = .returned (.bool true) ∧ Below w.heap.size w w' := by
  obtain ⟨i0, hi, hz0, hz1, hz2⟩ := info_parts Ybaf.info5
  have HC : Hid (∀ j, j < n → ∃ b off, ao = some ⟨b, off, none⟩ ∧ w.cell? ⟨b, off + j, none⟩ = some (.int .u8 (d j : Int))) := hc
  have HT : Hid (Lib.TabIs Ybaf.prog w tabName .u64 Lib.pow10Tab) := hT
  have HS : Hid (Sents w) := hS
  have HF : Hid (F.answers w.tape) := hF
  have HD : Hid (∀ j, d j ≤ 255) := hd
  clear hc hT hS hF hd
  have hd0 : decide (1024 < (n : Int)) = false := by simp; omega
  go_enter Ybaf.func4, Ybaf.ntmps4
  go_wp2_with (refine wpList_make_own _ rfl (.const (.int .i64 0)) (.tmp 18) 29 rfl w.heap.size 5 i0 (.int .u8 0) 1 Ybaf.underlying29 hi hz0 hz1 .i64 .i64 (n + 1) (n + 1) rfl rfl ?c0 ?c1 ?c2 ?c3 ?_)
  case c0 => simp
  case c1 => rw [hz2]; omega
  case c2 => unfold maxLen; omega
  case c3 => exact Nat.le_refl _
  intro w1 hown hgrow
  have HR : Hid (Buf w w1 (n + 1) []) := ⟨hown, (Below.refl _ _).grown hgrow (Nat.le_refl _) (fun k hk => by cases hk)⟩
  clear hown hgrow
  go_wp2_with (at_builtin; refine wpList_append_fits _ rfl (.tmp 24) (.tmp 25) 29 rfl w.heap.size 5 i0 1 Ybaf.underlying29 hi hz1 w.heap.size 0 (n + 1) [] rfl (HR.out.own.alloc _) ⟨w1.heap.size, 0, none⟩ 1 1 [.int .u8 43] rfl (one_len _) (cell_one_new _ _ _) (one_byte _) ?d1 ?_)
  case d1 => omega
  intro w2 hown hgrow
  have HP : Hid (Buf w w2 (n + 1) (textAt [43] d 0)) := by
    show Buf _ _ _ _
    rw [textAt_zero]
    exact HR.out.push' (m := 0) (c := 43) rfl rfl hown hgrow
  clear hown hgrow HR
  go_wp2_with fail
  go_loopw [5, 6] (fun v i wr => ∃ k : Nat, k ≤ n ∧ i = .int .i64 k ∧ v = .slice (some ⟨w.heap.size, 0, none⟩) (k + 1) (n + 1) ∧ Hid (Buf w wr (n + 1) (textAt [43] d k))) (fun _ i _ => n - (intOf i).toNat)
  case atStart => exact ⟨0, Nat.zero_le _, rfl, rfl, HP⟩
  case round =>
    obtain ⟨k, hk, rfl, rfl, HX⟩ := hrel
    clear HP
    by_cases hlt : k < n
    · obtain ⟨b, off, hao, hck0⟩ := HC.out k hlt
      have hbw := World.block_lt_of_cell? w _ hck0
      have hck : wr.cell? ⟨b, off + k, none⟩ = some (.int .u8 (d k : Int)) := (HX.out.low.cell (p := ⟨b, off + k, none⟩) hbw).trans hck0
      have hdk := HD.out k
      subst hao
      clear hck0 HC HS HT HF hbw
      go_wp2_with (at_builtin; refine wpList_append_fits _ rfl (.tmp 38) (.tmp 45) 29 rfl w.heap.size 5 i0 1 Ybaf.underlying29 hi hz1 w.heap.size (k + 1) (n + 1) (cellsOf (textAt [43] d k)) rfl ((HX.out.at (by rw [textAt_length]; simp; try omega)).alloc _) ⟨wr.heap.size, 0, none⟩ 1 1 [.int .u8 (48 + (d k : Int) % 10)] rfl (one_len _) (cell_one_new _ _ _) (one_byte _) ?e1 ?_)
      case e1 => omega
      intro w3 hown hgrow
      have HY : Hid (Buf w w3 (n + 1) (textAt [43] d (k + 1))) := by
        show Buf _ _ _ _
        rw [textAt_succ]
        exact HX.out.push' (m := k + 1) (c := dig (d k)) (by rw [textAt_length]; simp; try omega) (dig_toNat _).symm hown hgrow
      clear hown hgrow HX hck
      go_wp2
      go_roundw
      case rel => exact ⟨k + 1, by omega, by go_num, rfl, HY⟩
      case measure => simp [intOf]; omega
    · have hkn : k = n := by omega
      subst hkn
      clear HC HD
      obtain ⟨s, hs, hsz, hcv⟩ := HX.out.string (m := k + 1) (by rw [textAt_length]; simp; try omega)
      have HL : Hid (s.data.toList = textAt [43] d k) := hs
      have hlim : s.size ≤ 281474976710656 := by omega
      have HB : Hid (Below w.heap.size w wr) := HX.out.low
      have HS1 : Hid (Sents wr) := HS.out.below HB.out hG
      have HT1 : Hid (Lib.TabIs Ybaf.prog wr tabName .u64 Lib.pow10Tab) := tab_below HT.out HB.out hG
      have HF1 : Hid (F.answers wr.tape) := by show F.answers wr.tape; rw [HB.out.tape]; exact HF.out
      have hG1 : 3 ≤ wr.heap.size := Nat.le_trans hG HB.out.size
      clear hs hsz HX HS HT HF
      rcases hy : yearOf s.data.toList with _ | v
      · have HY : Hid (yearOf s.data.toList = none) := hy
        clear hy
        go_wp2_with fail
        clear hcv
        refine (year_none F s hlim HY.out _ HF1.out HS1.out).mono ?_
        rintro e w3 ⟨⟨p, rfl⟩, hb⟩
        have HB3 : Hid (Below w.heap.size w w3) := HB.out.trans (hb.mono HB.out.size)
        clear hb
        go_wp2_with fail
        refine (model_none s _ hlim HY.out).mono ?_
        rintro e w4 ⟨rfl, rfl⟩
        go_wp2_with fail
        go_ret
        exact ⟨rfl, HB3.out⟩
      · have HY : Hid (yearOf s.data.toList = some v) := hy
        have hv := year_le hy
        have hst : 1 ≤ s.size := by have h := congrArg List.length HL.out; rw [textAt_length] at h; simp at h; omega
        have HI : Hid (Lib.itoa (v : Int) = (s.data.toList.drop 1).dropWhile zero) := year_tail hy (.inl ⟨rfl, _, HL.out⟩)
        clear hy
        go_wp2_with fail
        clear hcv
        refine (year_some s hlim v HY.out _).mono ?_
        rintro e w3 ⟨rfl, hb⟩
        have HB3 : Hid (Below w.heap.size w w3) := HB.out.trans (hb.mono HB.out.size)
        have HT3 : Hid (Lib.TabIs Ybaf.prog w3 tabName .u64 Lib.pow10Tab) := tab_below HT1.out hb hG1
        clear hb
        go_wp2_with fail
        refine (model_some s _ hlim HY.out).mono ?_
        rintro e w4 ⟨rfl, rfl⟩
        go_wp2_with fail
        go_loop [12] (fun j => ∃ t : Nat, t ≤ s.size ∧ j = .int .i64 t ∧ Hid ((s.data.toList.drop 1).dropWhile zero = (s.data.toList.drop t).dropWhile zero)) (fun j => s.size - (intOf j).toNat)
        case atStart => exact ⟨1, hst, rfl, rfl⟩
        case round =>
          obtain ⟨t, ht, rfl, HZ⟩ := hrel
          by_cases htl : t < s.size
          · by_cases hz : (s[t]'htl).toNat = 48
            · have HN : Hid ((s.data.toList.drop t).dropWhile zero = (s.data.toList.drop (t + 1)).dropWhile zero) := zero_at s t htl hz
              have hzb : (((s[t]'htl).toNat : Int) == 48) = true := beq_iff_eq.2 (by omega)
              clear hz
              go_wp2_with fail
              go_round
              case rel => exact ⟨t + 1, by omega, by go_num, HZ.out.trans HN.out⟩
              case measure => simp [intOf]; omega
            · have HN : Hid (Lib.itoa (v : Int) = s.data.toList.drop t) := HI.out.trans (HZ.out.trans (not_zero_at s t htl hz))
              have hzb : (((s[t]'htl).toNat : Int) == 48) = false := beq_eq_false_iff_ne.2 (by omega)
              clear hz
              have hfin := same_text s t HN.out
              go_wp2_with fail
              go_region_with (go_at_call 7; refine (itoa_any (v : Int) (by omega) (by omega) _ (by exact HT3.out)).mono ?_; rintro e w5 ⟨rfl, hb5⟩)
              go_wp2
              go_ret
              exact ⟨by simp [Act.put], HB3.out.drew.trans (hb5.mono HB3.out.size)⟩
          · have hte : t = s.size := by omega
            subst hte
            have HE : Hid (Lib.itoa (v : Int) = []) := HI.out.trans (HZ.out.trans (end_at s))
            go_wp2_with fail
            go_region_with (go_at_call 7; refine (itoa_any (v : Int) (by omega) (by omega) _ (by exact HT3.out)).mono ?_; rintro e w5 ⟨rfl, hb5⟩)
            go_wp2
            go_ret
            exact ⟨by simp [Act.put]; exact HE.out, HB3.out.drew.trans (hb5.mono HB3.out.size)⟩

set_option maxHeartbeats 2000000 in
theorem digits_minus (F : Interp) (ao : Option Addr) (n cap : Nat) (d : Nat → Nat) (sg : Int) (w : World) (hn : n ≤ 1024) (hd : ∀ j, d j ≤ 255) (h0 : 0 ≤ sg) (h1 : sg ≤ 255) (hs1 : (sg % 3 == 1) = false) (hs2 : (sg % 3 == 2) = true)
    (hc : ∀ j, j < n → ∃ b off, ao = some ⟨b, off, none⟩ ∧ w.cell? ⟨b, off + j, none⟩ = some (.int .u8 (d j : Int)))
    (hF : F.answers w.tape) (hS : Sents w) (hT : Lib.TabIs Ybaf.prog w tabName .u64 Lib.pow10Tab) (hG : 3 ≤ w.heap.size) :
    Calls Ybaf.prog 4 #[.slice ao n cap, .int .u8 sg] w fun e w' => e = .returned (.bool true) ∧ Below w.heap.size w w' := by
  obtain ⟨i0, hi, hz0, hz1, hz2⟩ := info_parts Ybaf.info5
  have HC : Hid (∀ j, j < n → ∃ b off, ao = some ⟨b, off, none⟩ ∧ w.cell? ⟨b, off + j, none⟩ = some (.int .u8 (d j : Int))) := hc
  have HT : Hid (Lib.TabIs Ybaf.prog w tabName .u64 Lib.pow10Tab) := hT
  have HS : Hid (Sents w) := hS
  have HF : Hid (F.answers w.tape) := hF
  have HD : Hid (∀ j, d j ≤ 255) := hd
  clear hc hT hS hF hd
  have hd0 : decide (1024 < (n : Int)) = false := by simp; omega
  go_enter Ybaf.func4, Ybaf.ntmps4
  go_wp2_with (refine wpList_make_own _ rfl (.const (.int .i64 0)) (.tmp 18) 29 rfl w.heap.size 5 i0 (.int .u8 0) 1 Ybaf.underlying29 hi hz0 hz1 .i64 .i64 (n + 1) (n + 1) rfl rfl ?c0 ?c1 ?c2 ?c3 ?_)
  case c0 => simp
  case c1 => rw [hz2]; omega
  case c2 => unfold maxLen; omega
  case c3 => exact Nat.le_refl _
  intro w1 hown hgrow
  have HR : Hid (Buf w w1 (n + 1) []) := ⟨hown, (Below.refl _ _).grown hgrow (Nat.le_refl _) (fun k hk => by cases hk)⟩
  clear hown hgrow
  go_wp2_with (at_builtin; refine wpList_append_fits _ rfl (.tmp 29) (.tmp 30) 29 rfl w.heap.size 5 i0 1 Ybaf.underlying29 hi hz1 w.heap.size 0 (n + 1) [] rfl (HR.out.own.alloc _) ⟨w1.heap.size, 0, none⟩ 1 1 [.int .u8 45] rfl (one_len _) (cell_one_new _ _ _) (one_byte _) ?d1 ?_)
  case d1 => omega
  intro w2 hown hgrow
  have HP : Hid (Buf w w2 (n + 1) (textAt [45] d 0)) := by
    show Buf _ _ _ _
    rw [textAt_zero]
    exact HR.out.push' (m := 0) (c := 45) rfl rfl hown hgrow
  clear hown hgrow HR
  go_wp2_with fail
  go_loopw [5, 6] (fun v i wr => ∃ k : Nat, k ≤ n ∧ i = .int .i64 k ∧ v = .slice (some ⟨w.heap.size, 0, none⟩) (k + 1) (n + 1) ∧ Hid (Buf w wr (n + 1) (textAt [45] d k))) (fun _ i _ => n - (intOf i).toNat)
  case atStart => exact ⟨0, Nat.zero_le _, rfl, rfl, HP⟩
  case round =>
    obtain ⟨k, hk, rfl, rfl, HX⟩ := hrel
    clear HP
    by_cases hlt : k < n
    · obtain ⟨b, off, hao, hck0⟩ := HC.out k hlt
      have hbw := World.block_lt_of_cell? w _ hck0
      have hck : wr.cell? ⟨b, off + k, none⟩ = some (.int .u8 (d k : Int)) := (HX.out.low.cell (p := ⟨b, off + k, none⟩) hbw).trans hck0
      have hdk := HD.out k
      subst hao
      clear hck0 HC HS HT HF hbw
      go_wp2_with (at_builtin; refine wpList_append_fits _ rfl (.tmp 38) (.tmp 45) 29 rfl w.heap.size 5 i0 1 Ybaf.underlying29 hi hz1 w.heap.size (k + 1) (n + 1) (cellsOf (textAt [45] d k)) rfl ((HX.out.at (by rw [textAt_length]; simp; try omega)).alloc _) ⟨wr.heap.size, 0, none⟩ 1 1 [.int .u8 (48 + (d k : Int) % 10)] rfl (one_len _) (cell_one_new _ _ _) (one_byte _) ?e1 ?_)
      case e1 => omega
      intro w3 hown hgrow
      have HY : Hid (Buf w w3 (n + 1) (textAt [45] d (k + 1))) := by
        show Buf _ _ _ _
        rw [textAt_succ]
        exact HX.out.push' (m := k + 1) (c := dig (d k)) (by rw [textAt_length]; simp; try omega) (dig_toNat _).symm hown hgrow
      clear hown hgrow HX hck
      go_wp2
      go_roundw
      case rel => exact ⟨k + 1, by omega, by go_num, rfl, HY⟩
      case measure => simp [intOf]; omega
    · have hkn : k = n := by omega
      subst hkn
      clear HC HD
      obtain ⟨s, hs, hsz, hcv⟩ := HX.out.string (m := k + 1) (by rw [textAt_length]; simp; try omega)
      have HL : Hid (s.data.toList = textAt [45] d k) := hs
      have hlim : s.size ≤ 281474976710656 := by omega
      have HB : Hid (Below w.heap.size w wr) := HX.out.low
      have HS1 : Hid (Sents wr) := HS.out.below HB.out hG
      have HT1 : Hid (Lib.TabIs Ybaf.prog wr tabName .u64 Lib.pow10Tab) := tab_below HT.out HB.out hG
      have HF1 : Hid (F.answers wr.tape) := by show F.answers wr.tape; rw [HB.out.tape]; exact HF.out
      have hG1 : 3 ≤ wr.heap.size := Nat.le_trans hG HB.out.size
      clear hs hsz HX HS HT HF
      rcases hy : yearOf s.data.toList with _ | v
      · have HY : Hid (yearOf s.data.toList = none) := hy
        clear hy
        go_wp2_with fail
        clear hcv
        refine (year_none F s hlim HY.out _ HF1.out HS1.out).mono ?_
        rintro e w3 ⟨⟨p, rfl⟩, hb⟩
        have HB3 : Hid (Below w.heap.size w w3) := HB.out.trans (hb.mono HB.out.size)
        clear hb
        go_wp2_with fail
        refine (model_none s _ hlim HY.out).mono ?_
        rintro e w4 ⟨rfl, rfl⟩
        go_wp2_with fail
        go_ret
        exact ⟨rfl, HB3.out⟩
      · have hs : s.data.toList = 45 :: _ := HL.out
        rw [hs, year_minus] at hy
        cases hy

set_option maxHeartbeats 2000000 in
theorem digits_bare (F : Interp) (ao : Option Addr) (n cap : Nat) (d : Nat → Nat) (sg : Int) (w : World) (hn : n ≤ 1024) (hd : ∀ j, d j ≤ 255) (h0 : 0 ≤ sg) (h1 : sg ≤ 255) (hs1 : (sg % 3 == 1) = false) (hs2 : (sg % 3 == 2) = false)
    (hc : ∀ j, j < n → ∃ b off, ao = some ⟨b, off, none⟩ ∧ w.cell? ⟨b, off + j, none⟩ = some (.int .u8 (d j : Int)))
    (hF : F.answers w.tape) (hS : Sents w) (hT : Lib.TabIs Ybaf.prog w tabName .u64 Lib.pow10Tab) (hG : 3 ≤ w.heap.size) :
    Calls Ybaf.prog 4 #[.slice ao n cap, .int .u8 sg] w fun e w' => e = .returned (.bool true) ∧ Below w.heap.size w w' := by
  obtain ⟨i0, hi, hz0, hz1, hz2⟩ := info_parts Ybaf.info5
  have HC : Hid (∀ j, j < n → ∃ b off, ao = some ⟨b, off, none⟩ ∧ w.cell? ⟨b, off + j, none⟩ = some (.int .u8 (d j : Int))) := hc
  have HT : Hid (Lib.TabIs Ybaf.prog w tabName .u64 Lib.pow10Tab) := hT
  have HS : Hid (Sents w) := hS
  have HF : Hid (F.answers w.tape) := hF
  have HD : Hid (∀ j, d j ≤ 255) := hd
  clear hc hT hS hF hd
  have hd0 : decide (1024 < (n : Int)) = false := by simp; omega
  go_enter Ybaf.func4, Ybaf.ntmps4
  go_wp2_with (refine wpList_make_own _ rfl (.const (.int .i64 0)) (.tmp 18) 29 rfl w.heap.size 5 i0 (.int .u8 0) 1 Ybaf.underlying29 hi hz0 hz1 .i64 .i64 (n + 1) (n + 1) rfl rfl ?c0 ?c1 ?c2 ?c3 ?_)
  case c0 => simp
  case c1 => rw [hz2]; omega
  case c2 => unfold maxLen; omega
  case c3 => exact Nat.le_refl _
  intro w1 hown hgrow
  have HR : Hid (Buf w w1 (n + 1) []) := ⟨hown, (Below.refl _ _).grown hgrow (Nat.le_refl _) (fun k hk => by cases hk)⟩
  clear hown hgrow
  have HP : Hid (Buf w w1 (n + 1) (textAt [] d 0)) := by
    show Buf _ _ _ _
    rw [textAt_zero]
    exact HR.out
  clear HR
  go_wp2_with fail
  go_loopw [5, 6] (fun v i wr => ∃ k : Nat, k ≤ n ∧ i = .int .i64 k ∧ v = .slice (some ⟨w.heap.size, 0, none⟩) (k) (n + 1) ∧ Hid (Buf w wr (n + 1) (textAt [] d k))) (fun _ i _ => n - (intOf i).toNat)
  case atStart => exact ⟨0, Nat.zero_le _, rfl, rfl, HP⟩
  case round =>
    obtain ⟨k, hk, rfl, rfl, HX⟩ := hrel
    clear HP
    by_cases hlt : k < n
    · obtain ⟨b, off, hao, hck0⟩ := HC.out k hlt
      have hbw := World.block_lt_of_cell? w _ hck0
      have hck : wr.cell? ⟨b, off + k, none⟩ = some (.int .u8 (d k : Int)) := (HX.out.low.cell (p := ⟨b, off + k, none⟩) hbw).trans hck0
      have hdk := HD.out k
      subst hao
      clear hck0 HC HS HT HF hbw
      go_wp2_with (at_builtin; refine wpList_append_fits _ rfl (.tmp 38) (.tmp 45) 29 rfl w.heap.size 5 i0 1 Ybaf.underlying29 hi hz1 w.heap.size (k) (n + 1) (cellsOf (textAt [] d k)) rfl ((HX.out.at (by rw [textAt_length]; simp; try omega)).alloc _) ⟨wr.heap.size, 0, none⟩ 1 1 [.int .u8 (48 + (d k : Int) % 10)] rfl (one_len _) (cell_one_new _ _ _) (one_byte _) ?e1 ?_)
      case e1 => omega
      intro w3 hown hgrow
      have HY : Hid (Buf w w3 (n + 1) (textAt [] d (k + 1))) := by
        show Buf _ _ _ _
        rw [textAt_succ]
        exact HX.out.push' (m := k) (c := dig (d k)) (by rw [textAt_length]; simp; try omega) (dig_toNat _).symm hown hgrow
      clear hown hgrow HX hck
      go_wp2
      go_roundw
      case rel => exact ⟨k + 1, by omega, by go_num, rfl, HY⟩
      case measure => simp [intOf]; omega
    · have hkn : k = n := by omega
      subst hkn
      clear HC HD
      obtain ⟨s, hs, hsz, hcv⟩ := HX.out.string (m := k) (by rw [textAt_length]; simp; try omega)
      have HL : Hid (s.data.toList = textAt [] d k) := hs
      have hlim : s.size ≤ 281474976710656 := by omega
      have HB : Hid (Below w.heap.size w wr) := HX.out.low
      have HS1 : Hid (Sents wr) := HS.out.below HB.out hG
      have HT1 : Hid (Lib.TabIs Ybaf.prog wr tabName .u64 Lib.pow10Tab) := tab_below HT.out HB.out hG
      have HF1 : Hid (F.answers wr.tape) := by show F.answers wr.tape; rw [HB.out.tape]; exact HF.out
      have hG1 : 3 ≤ wr.heap.size := Nat.le_trans hG HB.out.size
      clear hs hsz HX HS HT HF
      rcases hy : yearOf s.data.toList with _ | v
      · have HY : Hid (yearOf s.data.toList = none) := hy
        clear hy
        go_wp2_with fail
        clear hcv
        refine (year_none F s hlim HY.out _ HF1.out HS1.out).mono ?_
        rintro e w3 ⟨⟨p, rfl⟩, hb⟩
        have HB3 : Hid (Below w.heap.size w w3) := HB.out.trans (hb.mono HB.out.size)
        clear hb
        go_wp2_with fail
        refine (model_none s _ hlim HY.out).mono ?_
        rintro e w4 ⟨rfl, rfl⟩
        go_wp2_with fail
        go_ret
        exact ⟨rfl, HB3.out⟩
      · have HY : Hid (yearOf s.data.toList = some v) := hy
        have hv := year_le hy
        have hst : 0 ≤ s.size := Nat.zero_le _
        have HI : Hid (Lib.itoa (v : Int) = (s.data.toList.drop 0).dropWhile zero) := year_tail hy (.inr ⟨rfl, fun r e => bare_head d k r (HL.out.symm.trans e)⟩)
        clear hy
        go_wp2_with fail
        clear hcv
        refine (year_some s hlim v HY.out _).mono ?_
        rintro e w3 ⟨rfl, hb⟩
        have HB3 : Hid (Below w.heap.size w w3) := HB.out.trans (hb.mono HB.out.size)
        have HT3 : Hid (Lib.TabIs Ybaf.prog w3 tabName .u64 Lib.pow10Tab) := tab_below HT1.out hb hG1
        clear hb
        go_wp2_with fail
        refine (model_some s _ hlim HY.out).mono ?_
        rintro e w4 ⟨rfl, rfl⟩
        go_wp2_with fail
        go_loop [12] (fun j => ∃ t : Nat, t ≤ s.size ∧ j = .int .i64 t ∧ Hid ((s.data.toList.drop 0).dropWhile zero = (s.data.toList.drop t).dropWhile zero)) (fun j => s.size - (intOf j).toNat)
        case atStart => exact ⟨0, hst, rfl, rfl⟩
        case round =>
          obtain ⟨t, ht, rfl, HZ⟩ := hrel
          by_cases htl : t < s.size
          · by_cases hz : (s[t]'htl).toNat = 48
            · have HN : Hid ((s.data.toList.drop t).dropWhile zero = (s.data.toList.drop (t + 1)).dropWhile zero) := zero_at s t htl hz
              have hzb : (((s[t]'htl).toNat : Int) == 48) = true := beq_iff_eq.2 (by omega)
              clear hz
              go_wp2_with fail
              go_round
              case rel => exact ⟨t + 1, by omega, by go_num, HZ.out.trans HN.out⟩
              case measure => simp [intOf]; omega
            · have HN : Hid (Lib.itoa (v : Int) = s.data.toList.drop t) := HI.out.trans (HZ.out.trans (not_zero_at s t htl hz))
              have hzb : (((s[t]'htl).toNat : Int) == 48) = false := beq_eq_false_iff_ne.2 (by omega)
              clear hz
              have hfin := same_text s t HN.out
              go_wp2_with fail
              go_region_with (go_at_call 7; refine (itoa_any (v : Int) (by omega) (by omega) _ (by exact HT3.out)).mono ?_; rintro e w5 ⟨rfl, hb5⟩)
              go_wp2
              go_ret
              exact ⟨by simp [Act.put], HB3.out.drew.trans (hb5.mono HB3.out.size)⟩
          · have hte : t = s.size := by omega
            subst hte
            have HE : Hid (Lib.itoa (v : Int) = []) := HI.out.trans (HZ.out.trans (end_at s))
            go_wp2_with fail
            go_region_with (go_at_call 7; refine (itoa_any (v : Int) (by omega) (by omega) _ (by exact HT3.out)).mono ?_; rintro e w5 ⟨rfl, hb5⟩)
            go_wp2
            go_ret
            exact ⟨by simp [Act.put]; exact HE.out, HB3.out.drew.trans (hb5.mono HB3.out.size)⟩

set_option maxHeartbeats 1000000 in
theorem digits_long (ao : Option Addr) (n cap : Nat) (sg : Int) (w : World) (hn : 1024 < n) :
    Calls Ybaf.prog 4 #[.slice ao n cap, .int .u8 sg] w fun e w' => e = .returned (.bool true) ∧ Below w.heap.size w w' := by
  have hd : (1024 : Int) < n := by omega
  go_enter Ybaf.func4, Ybaf.ntmps4
  go_wp2
  go_ret
  exact ⟨rfl, Below.refl _ _⟩

/-- LawS4858CDigits at every slice and every sign -/
theorem digits_any (F : Interp) (ao : Option Addr) (n cap : Nat) (d : Nat → Nat) (sg : Int) (w : World) (hd : ∀ j, d j ≤ 255) (h0 : 0 ≤ sg) (h1 : sg ≤ 255)
    (hc : ∀ j, j < n → ∃ b off, ao = some ⟨b, off, none⟩ ∧ w.cell? ⟨b, off + j, none⟩ = some (.int .u8 (d j : Int)))
    (hF : F.answers w.tape) (hS : Sents w) (hT : Lib.TabIs Ybaf.prog w tabName .u64 Lib.pow10Tab) (hG : 3 ≤ w.heap.size) :
    Calls Ybaf.prog 4 #[.slice ao n cap, .int .u8 sg] w fun e w' => e = .returned (.bool true) ∧ Below w.heap.size w w' := by
  by_cases hn : 1024 < n
  · exact digits_long ao n cap sg w hn
  · by_cases e1 : sg % 3 = 1
    · exact digits_plus F ao n cap d sg w (by omega) hd h0 h1 (beq_iff_eq.2 e1) (beq_eq_false_iff_ne.2 (by omega)) hc hF hS hT hG
    · by_cases e2 : sg % 3 = 2
      · exact digits_minus F ao n cap d sg w (by omega) hd h0 h1 (beq_eq_false_iff_ne.2 e1) (beq_iff_eq.2 e2) hc hF hS hT hG
      · exact digits_bare F ao n cap d sg w (by omega) hd h0 h1 (beq_eq_false_iff_ne.2 e1) (beq_eq_false_iff_ne.2 e2) hc hF hS hT hG

end Go.Proofs.YbulkcvowFmt
