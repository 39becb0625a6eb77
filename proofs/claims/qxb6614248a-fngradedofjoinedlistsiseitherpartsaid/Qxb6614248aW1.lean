import Derived.Test.Qxb6614248aRows
import Derived.WalkKit
import Derived.WalkSpells

namespace Go.Proofs.Qxb6614248a
open Go.RowKit

/-- The strings ss lie from address a on (nothing is said of a where there are none). -/
def Strs (w : World) (a : Option Addr) (ss : List ByteArray) : Prop :=
  ss = [] ∨ ∃ b off, a = some ⟨b, off, none⟩ ∧ b < w.heap.size ∧ ∀ j, j < ss.length → w.cell? ⟨b, off + j, none⟩ = some (.string (ss.getD j ByteArray.empty))

theorem Strs.below {w w' : World} {a : Option Addr} {ss : List ByteArray} (h : Strs w a ss) (hb : Below w.heap.size w w') : Strs w' a ss := by
  rcases h with h | ⟨b, off, ha, hlt, hc⟩
  · exact .inl h
  · exact .inr ⟨b, off, ha, Nat.lt_of_lt_of_le hlt hb.size, fun j hj => (hb.cell (p := ⟨b, off + j, none⟩) hlt).trans (hc j hj)⟩

theorem Strs.at {w : World} {a : Option Addr} {ss : List ByteArray} (h : Strs w a ss) {k : Nat} (hk : k < ss.length) :
    ∃ b off, a = some ⟨b, off, none⟩ ∧ b < w.heap.size ∧ w.cell? ⟨b, off + k, none⟩ = some (.string (ss.getD k ByteArray.empty)) := by
  rcases h with h | ⟨b, off, ha, hlt, hc⟩
  · subst h; simp at hk
  · exact ⟨b, off, ha, hlt, hc k hk⟩

def AnyBool (e : Ending) : Prop := ∃ r, e = .returned (.bool r)
theorem anyBool {e : Ending} {r : Bool} (h : e = .returned (.bool r)) : AnyBool e := ⟨r, h⟩

set_option maxHeartbeats 400000 in
set_option maxRecDepth 100000 in
/-- zzBytes..: it answers a bool and only reads. -/
theorem bytes_any (p : ByteArray) (a : Option Addr) (n cap : Nat) (ss : List ByteArray) (x : Int) (a' : Option Addr) (n' cap' : Nat) (ss' : List ByteArray) (x' : Int) (w : World) (hs : Strs w a ss) (hn : n = ss.length) (hs' : Strs w a' ss') (hn' : n' = ss'.length) :
    Calls Try.prog 5 #[.string p, .slice a n cap, .int .i64 x, .slice a' n' cap', .int .i64 x'] w fun e w' => AnyBool e ∧ w' = w := by
  have hn1 : n ≤ ss.length := Nat.le_of_eq hn
  have hn2 : n' ≤ ss'.length := Nat.le_of_eq hn'
  clear hn hn'
  by_cases h1 : (1048576 : Int) < p.size
  · go_enter Try.func5, Try.ntmps5
    go_wp2
    go_ret; exact ⟨anyBool rfl, rfl⟩
  have d1 : decide ((1048576 : Int) < p.size) = false := decide_eq_false h1
  by_cases h2 : (1048576 : Int) < n
  · go_enter Try.func5, Try.ntmps5
    go_wp2
    go_ret; exact ⟨anyBool rfl, rfl⟩
  have d2 : decide ((1048576 : Int) < n) = false := decide_eq_false h2
  by_cases h3 : (1048576 : Int) < p.size + n
  · go_enter Try.func5, Try.ntmps5
    go_wp2
    go_ret; exact ⟨anyBool rfl, rfl⟩
  have d3 : decide ((1048576 : Int) < p.size + n) = false := decide_eq_false h3
  go_enter Try.func5, Try.ntmps5
  go_wp2
  go_loop [11, 12] (fun t i => ∃ (k : Nat) (x : Int), k ≤ n ∧ i = .int .i64 k ∧ t = .int .i64 x) (fun _ i => n - (intOf i).toNat)
  case atStart => exact ⟨0, _, Nat.zero_le _, rfl, rfl⟩
  case round =>
    obtain ⟨k, y, hk, rfl, rfl⟩ := hrel
    by_cases hlt : k < n
    · obtain ⟨b, off, rfl, hb, hck⟩ := hs.at (k := k) (by omega)
      go_wp2
      · go_ret; exact ⟨anyBool rfl, rfl⟩
      · go_ret; exact ⟨anyBool rfl, rfl⟩
      · exact ⟨⟨k + 1, _, by omega, by go_num, rfl⟩, by simp [intOf]; omega⟩
    · rcases Bool.eq_false_or_eq_true (decide ((1048576 : Int) < n')) with d4 | d4
      · go_wp2
        go_ret; exact ⟨anyBool rfl, rfl⟩
      have h4 : (n' : Int) ≤ 1048576 := by simpa using d4
      rcases Bool.eq_false_or_eq_true (decide ((1048576 : Int) < wrap64 (y + n'))) with d5 | d5
      · go_wp2
        go_ret; exact ⟨anyBool rfl, rfl⟩
      go_wp2
      go_loop [11, 13] (fun t i => ∃ (k : Nat) (x : Int), k ≤ n' ∧ i = .int .i64 k ∧ t = .int .i64 x) (fun _ i => n' - (intOf i).toNat)
      case atStart => exact ⟨0, _, Nat.zero_le _, rfl, rfl⟩
      case round =>
        obtain ⟨j, z, hj, rfl, rfl⟩ := hrel
        by_cases hlt' : j < n'
        · obtain ⟨b, off, rfl, hb, hck⟩ := hs'.at (k := j) (by omega)
          go_wp2
          · go_ret; exact ⟨anyBool rfl, rfl⟩
          · go_ret; exact ⟨anyBool rfl, rfl⟩
          · exact ⟨⟨j + 1, _, by omega, by go_num, rfl⟩, by simp [intOf]; omega⟩
        · go_wp2
          go_ret; exact ⟨anyBool rfl, rfl⟩

end Go.Proofs.Qxb6614248a
