import Derived.Test.Qxb6614244aW2
import Derived.Deep.OwnRows
namespace Go.Proofs.Qxb6614244a
open Go.RowKit

theorem Try.info9 : (Try.prog.info? 9).map (fun i => (i.zero, i.size, i.bytes)) = some (some (.string ByteArray.empty), 1, 16) := by kernel_rfl

def rowAt (ss : List ByteArray) (k j : Nat) : Value := if j < k then .string (ss.getD j ByteArray.empty) else .string ByteArray.empty

theorem rowAt_set (ss : List ByteArray) (k j : Nat) : (if j = k then Value.string (ss.getD k ByteArray.empty) else rowAt ss k j) = rowAt ss (k + 1) j := by
  unfold rowAt
  by_cases h : j = k
  · subst h; simp
  · by_cases h2 : j < k
    · have : j < k + 1 := by omega
      simp [h, h2, this]
    · have : ¬ j < k + 1 := by omega
      simp [h, h2, this]

/-- A copy of the strings ss has been made; what was there stands. -/
def Cloned (w w' : World) (n : Nat) (ss : List ByteArray) (e : Ending) : Prop :=
  ∃ a' c', e = .returned (.slice a' n c') ∧ Strs w' a' ss ∧ Below w.heap.size w w'

set_option maxHeartbeats 400000 in
set_option maxRecDepth 100000 in
theorem clone_any (a : Option Addr) (n cap : Nat) (ss : List ByteArray) (w : World) (hs : Strs w a ss) (hn : n = ss.length) (hl : n ≤ 4096) :
    Calls Try.prog 6 #[.slice a n cap] w fun e w' => Cloned w w' n ss e := by
  have q22 : ∀ (w : World) (a : Option Addr) (n c : Nat), (binOp .eql 22 (.slice a n c) (.slice none 0 0)).run Try.prog w = .ok (.bool a.isNone) w := fun w a n c => Lib.run_eql_slice_nil w _ _ _ _ _ _ _ Try.underlying22
  cases a with
  | none =>
    have h0 : ss = [] := by rcases hs with h | ⟨b, off, h, _⟩; exact h; cases h
    subst h0
    subst hn
    go_enter Try.func6, Try.ntmps6
    go_wp2
    go_ret
    exact ⟨none, 0, rfl, .inl rfl, Below.refl _ _⟩
  | some x =>
    have hmk := run_make_row' (P := Try.prog) 22 9 (.string ByteArray.empty) 16 Try.underlying22 Try.info9 rfl .i64 .i64 n (by omega) (by omega)
    rcases hs with rfl | ⟨b, off, ha, hb, hc⟩
    · have hn0 : n ≤ 0 := by simp at hn; omega
      clear hn
      go_enter Try.func6, Try.ntmps6
      go_wp2
      refine wp_loop_rounds 1 ?_
      rw [rounds_succ]
      go_wp2
      go_ret
      exact ⟨_, _, rfl, .inl rfl, (Below.refl _ _).alloc (Nat.le_refl _) _⟩
    · have hn1 : n ≤ ss.length := Nat.le_of_eq hn
      have hn2 : ss.length ≤ n := Nat.le_of_eq hn.symm
      clear hn
      obtain rfl := Option.some.inj ha
      clear ha
      go_enter Try.func6, Try.ntmps6
      go_wp2
      go_loopw [4] (fun i wr => ∃ k : Nat, k ≤ n ∧ i = .int .i64 k ∧ wr.rowIs w.heap.size 9 n (rowAt ss k) ∧ Below w.heap.size w wr) (fun i _ => n - (intOf i).toNat)
      case atStart => exact ⟨0, Nat.zero_le _, rfl, (World.rowIs_made _ _ _ _).congr (fun j _ => by simp [rowAt]), (Below.refl _ _).alloc (Nat.le_refl _) _⟩
      case round =>
        obtain ⟨k, hk, rfl, hrow, hnx⟩ := hrel
        by_cases hlt : k < n
        · have hck := (hnx.cell (p := ⟨b, off + k, none⟩) hb).trans (hc k (by omega))
          have hcr := hrow.cell hlt
          have hfr := hrow.frozen k
          go_wp2
          refine ⟨⟨k + 1, by omega, by go_num, ?_, hnx.setCell (Nat.le_refl _) _⟩, by simp [intOf]; omega⟩
          exact (hrow.set k _).congr (fun j _ => rowAt_set ss k j)
        · go_wp2
          go_ret
          refine ⟨_, _, rfl, .inr ⟨w.heap.size, 0, rfl, hrow.lt, fun j hj => ?_⟩, hnx⟩
          rw [Nat.zero_add, hrow.cell (show j < n by omega), rowAt, if_pos (by omega)]

end Go.Proofs.Qxb6614244a
