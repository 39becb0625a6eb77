import Derived.Test.Qxb6614335aW1
import Derived.Deep.OwnRows
namespace Go.Proofs.Qxb6614335a
open Go.RowKit

theorem Try.info9 : (Try.prog.info? 9).map (fun i => (i.zero, i.size, i.bytes)) = some (some (.string ByteArray.empty), 1, 16) := by kernel_rfl

theorem run_make_strs (n : Nat) (hn : n ≤ 65537) (w : World) :
    (Instr.makeSlice 22 (.int .i64 (n : Int)) (.int .i64 (n : Int))).run Try.prog w = .ok (.slice (some ⟨w.heap.size, 0, none⟩) n n) (w.alloc (.cells (madeCells #[.string ByteArray.empty] n) 9)) :=
  run_make_row' (P := Try.prog) 22 9 (.string ByteArray.empty) 16 Try.underlying22 Try.info9 rfl .i64 .i64 n (by omega) (by omega) w
theorem run_make_strs1 (n : Nat) (hn : n ≤ 65536) (w : World) :
    (Instr.makeSlice 22 (.int .i64 ((n : Int) + 1)) (.int .i64 ((n : Int) + 1))).run Try.prog w = .ok (.slice (some ⟨w.heap.size, 0, none⟩) (n + 1) (n + 1)) (w.alloc (.cells (madeCells #[.string ByteArray.empty] (n + 1)) 9)) := by
  have h := run_make_strs (n + 1) (by omega) w
  have ec : ((n + 1 : Nat) : Int) = (n : Int) + 1 := by omega
  rw [ec] at h
  exact h

def rowAt (ss : List ByteArray) (k j : Nat) : Value := if j < k then .string (ss.getD j ByteArray.empty) else .string ByteArray.empty

theorem rowAt_zero (ss : List ByteArray) (j : Nat) : Value.string ByteArray.empty = rowAt ss 0 j := by simp [rowAt]
theorem rowAt_set (ss : List ByteArray) (k j : Nat) : (if j = k then Value.string (ss.getD k ByteArray.empty) else rowAt ss k j) = rowAt ss (k + 1) j := by
  unfold rowAt
  by_cases h : j = k
  · subst h; simp
  · by_cases h2 : j < k
    · have : j < k + 1 := by omega
      simp [h, h2, this]
    · have : ¬ j < k + 1 := by omega
      simp [h, h2, this]

theorem getD_snoc_lt {ss : List ByteArray} {p : ByteArray} {j : Nat} (h : j < ss.length) : (ss ++ [p]).getD j ByteArray.empty = ss.getD j ByteArray.empty := by
  rw [List.getD, List.getElem?_append_left h, ← List.getD]
theorem getD_snoc_eq {ss : List ByteArray} {p : ByteArray} {j : Nat} (h : j = ss.length) : (ss ++ [p]).getD j ByteArray.empty = p := by
  subst h; simp

/-- The strings ss lie in a row of their own, laid since w. -/
def Fresh (w w' : World) (a : Option Addr) (ss : List ByteArray) : Prop :=
  ss = [] ∨ ∃ b, w.heap.size ≤ b ∧ a = some ⟨b, 0, none⟩ ∧ w'.rowIs b 9 ss.length (fun j => .string (ss.getD j ByteArray.empty))

theorem Fresh.strs {w w' : World} {a : Option Addr} {ss : List ByteArray} (h : Fresh w w' a ss) : Strs w' a ss := by
  rcases h with h | ⟨b, _, ha, hr⟩
  · exact .inl h
  · exact .inr ⟨b, 0, ha, hr.lt, fun j hj => by rw [Nat.zero_add]; exact hr.cell hj⟩

theorem fresh_full {w w' : World} {b n : Nat} {ss : List ByteArray} (hb : w.heap.size ≤ b) (hn : n = ss.length) (hr : w'.rowIs b 9 n (rowAt ss n)) : Fresh w w' (some ⟨b, 0, none⟩) ss := by
  subst hn
  exact .inr ⟨b, hb, rfl, hr.congr (fun j hj => by simp [rowAt, hj])⟩

/-- A slice of the strings ss, of a make of its own; what was there stands. -/
def SliceOut (w w' : World) (n : Nat) (ss : List ByteArray) (e : Ending) : Prop :=
  ∃ a' c', e = .returned (.slice a' n c') ∧ Fresh w w' a' ss ∧ Below w.heap.size w w'

set_option maxHeartbeats 400000 in
set_option maxRecDepth 100000 in
theorem clone_any (a : Option Addr) (n cap : Nat) (ss : List ByteArray) (w : World) (hs : Strs w a ss) (hn : n = ss.length) (hl : n ≤ 65536) :
    Calls Try.prog 10 #[.slice a n cap] w fun e w' => SliceOut w w' n ss e := by
  have q22 : ∀ (w : World) (a : Option Addr) (n c : Nat), (binOp .eql 22 (.slice a n c) (.slice none 0 0)).run Try.prog w = .ok (.bool a.isNone) w := fun w a n c => Lib.run_eql_slice_nil w _ _ _ _ _ _ _ Try.underlying22
  cases a with
  | none =>
    have h0 : ss = [] := by rcases hs with h | ⟨b, off, h, _⟩; exact h; cases h
    subst h0
    subst hn
    go_enter Try.func10, Try.ntmps10
    go_wp2
    go_ret
    exact ⟨none, 0, rfl, .inl rfl, Below.refl _ _⟩
  | some x =>
    have hmk := run_make_strs n (by omega)
    have hn1 : n ≤ ss.length := Nat.le_of_eq hn
    have Hn : Hid (n = ss.length) := hn
    clear hn
    go_enter Try.func10, Try.ntmps10
    go_wp2
    go_loopw [4] (fun i wr => ∃ k : Nat, k ≤ n ∧ i = .int .i64 k ∧ wr.rowIs w.heap.size 9 n (rowAt ss k) ∧ Below w.heap.size w wr) (fun i _ => n - (intOf i).toNat)
    case atStart => exact ⟨0, Nat.zero_le _, rfl, (World.rowIs_made _ _ _ _).congr (fun j _ => rowAt_zero ss j), (Below.refl _ _).alloc (Nat.le_refl _) _⟩
    case round =>
      obtain ⟨k, hk, rfl, hrow, hbw⟩ := hrel
      by_cases hlt : k < n
      · obtain ⟨b, off, hx, hb, hck0⟩ := hs.at (k := k) (by omega)
        obtain rfl := Option.some.inj hx
        clear hx
        have hck := (hbw.cell (p := ⟨b, off + k, none⟩) hb).trans hck0
        clear hck0
        have hcr := hrow.cell hlt
        have hfr := hrow.frozen k
        go_wp2
        refine ⟨⟨k + 1, by omega, by go_num, ?_, hbw.setCell (Nat.le_refl _) _⟩, by simp [intOf]; omega⟩
        exact (hrow.set k _).congr (fun j _ => rowAt_set ss k j)
      · have hkn : k = n := by omega
        rw [hkn] at hrow
        clear hkn
        go_wp2
        go_ret
        exact ⟨_, _, rfl, fresh_full (Nat.le_refl _) Hn.out hrow, hbw⟩

set_option maxHeartbeats 400000 in
set_option maxRecDepth 100000 in
theorem with_any (a : Option Addr) (n cap : Nat) (ss : List ByteArray) (p : ByteArray) (w : World) (hs : Strs w a ss) (hn : n = ss.length) (hl : n ≤ 65536) :
    Calls Try.prog 13 #[.slice a n cap, .string p] w fun e w' => SliceOut w w' (n + 1) (ss ++ [p]) e := by
  have hmk := run_make_strs1 n hl
  have hn1 : n ≤ ss.length := Nat.le_of_eq hn
  have Hn : Hid (n = ss.length) := hn
  clear hn
  go_enter Try.func13, Try.ntmps13
  go_wp2
  go_loopw [6] (fun i wr => ∃ k : Nat, k ≤ n ∧ i = .int .i64 k ∧ wr.rowIs w.heap.size 9 (n + 1) (rowAt ss k) ∧ Below w.heap.size w wr) (fun i _ => n - (intOf i).toNat)
  case atStart => exact ⟨0, Nat.zero_le _, rfl, (World.rowIs_made _ _ _ _).congr (fun j _ => rowAt_zero ss j), (Below.refl _ _).alloc (Nat.le_refl _) _⟩
  case round =>
    obtain ⟨k, hk, rfl, hrow, hbw⟩ := hrel
    by_cases hlt : k < n
    · obtain ⟨b, off, rfl, hb, hck0⟩ := hs.at (k := k) (by omega)
      have hck := (hbw.cell (p := ⟨b, off + k, none⟩) hb).trans hck0
      clear hck0
      have hcr := hrow.cell (i := k) (by omega)
      have hfr := hrow.frozen k
      go_wp2
      refine ⟨⟨k + 1, by omega, by go_num, ?_, hbw.setCell (Nat.le_refl _) _⟩, by simp [intOf]; omega⟩
      exact (hrow.set k _).congr (fun j _ => rowAt_set ss k j)
    · have hkn : k = n := by omega
      rw [hkn] at hrow
      clear hkn
      have hcr := hrow.cell (i := n) (by omega)
      have hfr := hrow.frozen n
      go_wp2
      go_ret
      refine ⟨_, _, rfl, .inr ⟨w.heap.size, Nat.le_refl _, rfl, ?_⟩, hbw.setCell (Nat.le_refl _) _⟩
      have hlen : (ss ++ [p]).length = n + 1 := by rw [List.length_append, ← Hn.out]; rfl
      rw [hlen]
      refine (hrow.set n _).congr (fun j hj => ?_)
      have hl2 := Hn.out
      by_cases e : j = n
      · subst e
        rw [if_pos rfl, getD_snoc_eq hl2]
      · rw [if_neg e, rowAt, if_pos (by omega), getD_snoc_lt (by omega)]

end Go.Proofs.Qxb6614335a
