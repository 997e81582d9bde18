import Derived.Test.YbulkcvowFmtLawModel
import Derived.Test.YbulkcvowFmtTail
import Derived.Test.YbulkcvowFmtShelfItoa
import Derived.Deep.RegionWith
namespace Go.Proofs.YbulkcvowFmt
open Go.RowKit Go.Extern.Stop Go.Stop Go.Extern
set_option linter.unusedVariables false

theorem Ybaf.info5 : (Ybaf.prog.info? 5).map (fun i => (i.zero, i.size, i.bytes)) = some (some (.int .u8 0), 1, 1) := by kernel_rfl

/-- the powers' table, by its name in the row -/
def tabName : String := (Rows.lawS4858CDigitsRow.laid.getD 2 ("", .nil)).1

theorem below_grow (w : World) (k : Nat) (os : Array Obj) : Below w.heap.size w (Sort.grow (w.drewN k) os) :=
  ⟨rfl, rfl, rfl, by simp [Sort.grow], fun i hi => by simp [Sort.grow, Array.getElem?_append_left hi]⟩

/-- strconv.Itoa at every int, the table laid. -/
theorem itoa_any (n : Int) (h0 : -9223372036854775808 ≤ n) (h1 : n ≤ 9223372036854775807) (w : World) (htab : Lib.TabIs Ybaf.prog w tabName .u64 Lib.pow10Tab) :
    Calls Ybaf.prog 7 #[.int .i64 n] w fun e w' => e = .returned (.string ⟨(Lib.itoa n).toArray⟩) ∧ Below w.heap.size w w' :=
  (Any.strconv_Itoa Ybaf.laysM171 n h0 h1 w htab).mono fun e w' ⟨he, k, os, hw⟩ => ⟨he, by rw [hw]; exact below_grow w k os⟩

/-- the cells of a list of bytes -/
def cellsOf (l : List UInt8) : List Value := l.map fun c => .int .u8 (c.toNat : Int)

/-- The slice b that the law fills: the bytes l, in a row of the call's own with room for cap. -/
structure Buf (w wr : World) (cap : Nat) (l : List UInt8) : Prop where
  own : wr.ownsRow w.heap.size 5 1 (.slice (some ⟨w.heap.size, 0, none⟩) l.length cap) l.length (cellsOf l)
  low : Below w.heap.size w wr

theorem Buf.push {w wr w' : World} {cap : Nat} {l : List UInt8} {c : UInt8} {x : Int} (h : Buf w wr cap l) {o : Obj} (hx : x = (c.toNat : Int))
    (hown : w'.ownsRow w.heap.size 5 1 (.slice (some ⟨w.heap.size, 0, none⟩) (l.length + 1) cap) (l.length + 1) (cellsOf l ++ [.int .u8 x])) (hg : (wr.alloc o).grownBy w' (some w.heap.size)) :
    Buf w w' cap (l ++ [c]) := by
  refine ⟨?_, (h.low.alloc h.low.size o).grown hg (by have := h.low.size; simp; omega) (fun k hk => by cases hk; exact Nat.le_refl _)⟩
  have e : cellsOf (l ++ [c]) = cellsOf l ++ [.int .u8 x] := by simp [cellsOf, hx]
  rw [e, List.length_append]
  exact hown

theorem Buf.text {w wr : World} {cap : Nat} {l : List UInt8} (h : Buf w wr cap l) :
    (convert 29 9 (.slice (some ⟨w.heap.size, 0, none⟩) l.length cap)).run Ybaf.prog wr = .ok (.string ⟨l.toArray⟩) wr :=
  run_convert_bytes_back wr 29 9 5 ⟨w.heap.size, 0, none⟩ cap l Ybaf.underlying29 Ybaf.underlying5 Ybaf.underlying9 fun j hj => by
    have := h.own.cells (g := w.heap.size) rfl j (.int .u8 (l[j].toNat : Int)) (by simp [cellsOf, hj])
    exact this

/-- the digit that the law makes of the number x -/
def dig (x : Nat) : UInt8 := UInt8.ofNat (48 + x % 10)
theorem dig_toNat (x : Nat) : ((dig x).toNat : Int) = 48 + (x : Int) % 10 := by
  unfold dig
  rw [UInt8.toNat_ofNat']
  omega
/-- the text behind k rounds -/
def textAt (pre : List UInt8) (d : Nat → Nat) (k : Nat) : List UInt8 := pre ++ (List.range k).map fun j => dig (d j)
theorem textAt_length (pre : List UInt8) (d : Nat → Nat) (k : Nat) : (textAt pre d k).length = pre.length + k := by simp [textAt]
theorem textAt_zero (pre : List UInt8) (d : Nat → Nat) : textAt pre d 0 = pre := by simp [textAt]
theorem textAt_succ (pre : List UInt8) (d : Nat → Nat) (k : Nat) : textAt pre d (k + 1) = textAt pre d k ++ [dig (d k)] := by
  simp [textAt, List.range_succ]

/-- what a call is told of the library's variables, carried over new memory -/
theorem Sents.below {w w' : World} (h : Sents w) (hb : Below w.heap.size w w') (hg : 3 ≤ w.heap.size) : Sents w' := by
  obtain ⟨t1, p1, h1⟩ := h.syn
  obtain ⟨t2, p2, h2⟩ := h.rng
  exact ⟨⟨t1, p1, var?_below (g := 0) hb (by kernel_rfl) (by omega) h1⟩, ⟨t2, p2, var?_below (g := 1) hb (by kernel_rfl) (by omega) h2⟩⟩
theorem tab_below {w w' : World} {zs : List Int} (h : Lib.TabIs Ybaf.prog w tabName .u64 zs) (hb : Below w.heap.size w w') (hg : 3 ≤ w.heap.size) : Lib.TabIs Ybaf.prog w' tabName .u64 zs :=
  var?_below (g := 2) hb (by kernel_rfl) (by omega) h

theorem Buf.at {w wr : World} {cap m : Nat} {l : List UInt8} (h : Buf w wr cap l) (hl : l.length = m) :
    wr.ownsRow w.heap.size 5 1 (.slice (some ⟨w.heap.size, 0, none⟩) m cap) m (cellsOf l) := by
  rw [← hl]; exact h.own
theorem Buf.push' {w wr w' : World} {cap m : Nat} {l : List UInt8} {c : UInt8} {x : Int} (h : Buf w wr cap l) {o : Obj} (hl : l.length = m) (hx : x = (c.toNat : Int))
    (hown : w'.ownsRow w.heap.size 5 1 (.slice (some ⟨w.heap.size, 0, none⟩) (m + 1) cap) (m + 1) (cellsOf l ++ [.int .u8 x])) (hg : (wr.alloc o).grownBy w' (some w.heap.size)) :
    Buf w w' cap (l ++ [c]) := by
  subst hl
  exact h.push hx hown hg
theorem Buf.string {w wr : World} {cap m : Nat} {l : List UInt8} (h : Buf w wr cap l) (hl : l.length = m) :
    ∃ s : ByteArray, s.data.toList = l ∧ s.size = m ∧ (convert 29 9 (.slice (some ⟨w.heap.size, 0, none⟩) m cap)).run Ybaf.prog wr = .ok (.string s) wr :=
  ⟨⟨l.toArray⟩, rfl, by show l.toArray.size = m; simpa using hl, by rw [← hl]; exact h.text⟩
theorem one_byte (x : Int) : ∀ u ∈ [Value.int .u8 x], u.oneCell' = true := by
  intro u hu
  simp at hu
  subst hu
  rfl
theorem one_len (x : Int) : [Value.int .u8 x].length = 1 * 1 := rfl

end Go.Proofs.YbulkcvowFmt
