import Derived.Test.Qxb6614325aW2
import Derived.Deep.OwnRows
namespace Go.Proofs.Qxb6614325a
open Go.RowKit

/-- Block b is a row of n cells, none of them a constant. -/
def Row (w : World) (b n : Nat) : Prop := ∃ (c : Array Value) (t : TypeId), w.heap[b]? = some (.cells c t (0, 0)) ∧ c.size = n

theorem Row.cell {w : World} {b n : Nat} (h : Row w b n) {i : Nat} (hi : i < n) : ∃ v, w.cell? ⟨b, i, none⟩ = some v := by
  obtain ⟨c, t, hb, hn⟩ := h
  exact ⟨c[i], by simp [World.cell?, hb, hn, hi]⟩
theorem Row.frozen {w : World} {b n : Nat} (h : Row w b n) (i : Nat) : w.frozen? ⟨b, i, none⟩ = false := by
  obtain ⟨c, t, hb, _⟩ := h
  simp [World.frozen?, hb]
theorem Row.setCell {w : World} {b n : Nat} (h : Row w b n) (o : Nat) (v : Value) : Row (w.setCell ⟨b, o, none⟩ v) b n := by
  obtain ⟨c, t, hb, hn⟩ := h
  refine ⟨c.setIfInBounds o v, t, ?_, by simpa using hn⟩
  simp [World.setCell, Array.getElem?_modify, hb]
theorem Row.made (w : World) (z : Array Value) (n : Nat) (t : TypeId) : Row (w.alloc (.cells (madeCells z n) t)) w.heap.size n :=
  ⟨_, t, Go.Deep.blk_alloc_new _ _, size_madeCells _ _⟩
theorem Row.lt {w : World} {b n : Nat} (h : Row w b n) : b < w.heap.size := by
  obtain ⟨c, t, hb, _⟩ := h
  obtain ⟨hlt, _⟩ := Array.getElem?_eq_some_iff.1 hb
  exact hlt
theorem Row.below {w w' : World} {b n : Nat} (h : Row w b n) (hb : Below w.heap.size w w') : Row w' b n := by
  have hlt := h.lt
  obtain ⟨c, t, hc, hn⟩ := h
  exact ⟨c, t, (hb.block b hlt).trans hc, hn⟩

theorem Try.info55 : (Try.prog.info? 55).map (fun i => (i.zero, i.size, i.bytes)) = some (some (.agg #[.string ByteArray.empty, .int .i64 0, .int .i64 0, .int .i64 0, .string ByteArray.empty]), 5, 56) := by kernel_rfl

theorem run_make_tees (n : Nat) (hn : n ≤ 32768) (w : World) :
    (Instr.makeSlice 33 (.int .i64 (n : Int)) (.int .i64 (n : Int))).run Try.prog w = .ok (.slice (some ⟨w.heap.size, 0, none⟩) n n) (w.alloc (.cells (madeCells #[.string ByteArray.empty, .int .i64 0, .int .i64 0, .int .i64 0, .string ByteArray.empty] (n * 5)) 55)) := by
  obtain ⟨i, hi, hzz⟩ := Option.map_eq_some_iff.1 Try.info55
  simp only [Prod.mk.injEq] at hzz
  obtain ⟨hz, hs, hb⟩ := hzz
  have hr := run_make (P := Try.prog) w 33 55 i _ Try.underlying33 hi hz .i64 .i64 n n (by omega) (Int.le_refl _) (by rw [hb]; omega) (by omega)
  simpa [hs, Value.cells] using hr

/-- A copy of a row of grantees has been made: nil where the row is nil, and there alone; what was there stands. -/
def TeesOut (w w' : World) (a : Option Addr) (e : Ending) : Prop :=
  ∃ a' l' c', e = .returned (.slice a' l' c') ∧ a'.isNone = a.isNone ∧ Below w.heap.size w w'

set_option maxHeartbeats 1000000 in
set_option maxRecDepth 100000 in
theorem tees_any (a : Option Addr) (l c : Nat) (w : World) (hs : Tees w a l) (hl : l ≤ 32768) :
    Calls Try.prog 9 #[.slice a l c] w fun e w' => TeesOut w w' a e := by
  have q23 : ∀ (w : World) (a : Option Addr) (n c : Nat), (binOp .eql 23 (.slice a n c) (.slice none 0 0)).run Try.prog w = .ok (.bool a.isNone) w := fun w a n c => Lib.run_eql_slice_nil w _ _ _ _ _ _ _ Try.underlying23
  cases a with
  | none =>
    go_enter Try.func9, Try.ntmps9
    go_wp2
    go_ret
    exact ⟨none, 0, 0, rfl, rfl, Below.refl _ _⟩
  | some x =>
    have hmk := run_make_tees l hl
    go_enter Try.func9, Try.ntmps9
    go_wp2
    go_loopw [4] (fun i wr => ∃ k : Nat, k ≤ l ∧ i = .int .i64 k ∧ Row wr w.heap.size (l * 5) ∧ Below w.heap.size w wr) (fun i _ => l - (intOf i).toNat)
    case atStart => exact ⟨0, Nat.zero_le _, rfl, Row.made _ _ _ _, (Below.refl _ _).alloc (Nat.le_refl _) _⟩
    case round =>
      obtain ⟨k, hk, rfl, hrow, hbw⟩ := hrel
      by_cases hlt : k < l
      · obtain ⟨b, off, hx, hb, s, x0, y0, z0, t0, c0, c1, c2, c3, c4⟩ := (hs.below hbw).at hlt
        obtain rfl := Option.some.inj hx
        clear hx
        obtain ⟨b0, off0, hx, hb0, -⟩ := hs.at hlt
        simp only [Option.some.injEq, Addr.mk.injEq, and_true] at hx
        obtain ⟨v0, hv0⟩ := hrow.cell (i := k * 5) (by omega)
        obtain ⟨v1, hv1⟩ := hrow.cell (i := k * 5 + 1) (by omega)
        obtain ⟨v2, hv2⟩ := hrow.cell (i := k * 5 + 2) (by omega)
        obtain ⟨v3, hv3⟩ := hrow.cell (i := k * 5 + 3) (by omega)
        obtain ⟨v4, hv4⟩ := hrow.cell (i := k * 5 + 4) (by omega)
        have f0 := hrow.frozen (k * 5)
        have f1 := hrow.frozen (k * 5 + 1)
        have f2 := hrow.frozen (k * 5 + 2)
        have f3 := hrow.frozen (k * 5 + 3)
        have f4 := hrow.frozen (k * 5 + 4)
        have hne : b ≠ w.heap.size := by omega
        clear hx hs
        go_wp2
        exact ⟨⟨k + 1, by omega, by go_num, ((((hrow.setCell _ _).setCell _ _).setCell _ _).setCell _ _).setCell _ _, ((((hbw.setCell (Nat.le_refl _) _).setCell (Nat.le_refl _) _).setCell (Nat.le_refl _) _).setCell (Nat.le_refl _) _).setCell (Nat.le_refl _) _⟩, by simp [intOf]; omega⟩
      · go_wp2
        go_ret
        exact ⟨_, _, _, rfl, rfl, hbw⟩

end Go.Proofs.Qxb6614325a
