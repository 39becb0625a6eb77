import Derived.Test.Qxb6614325aRows
import Derived.WalkKit
import Derived.WalkSpells
namespace Go.Proofs.Qxb6614325a
open Go.RowKit

/-- A slice of l grantees from address a on, five cells each (nothing is said of a where there are none). -/
def Tees (w : World) (a : Option Addr) (l : Nat) : Prop :=
  l = 0 ∨ ∃ b off, a = some ⟨b, off, none⟩ ∧ b < w.heap.size ∧ ∀ j, j < l → ∃ (s : ByteArray) (x y z : Int) (t : ByteArray),
    w.cell? ⟨b, off + j * 5, none⟩ = some (.string s) ∧ w.cell? ⟨b, off + j * 5 + 1, none⟩ = some (.int .i64 x) ∧ w.cell? ⟨b, off + j * 5 + 2, none⟩ = some (.int .i64 y) ∧
    w.cell? ⟨b, off + j * 5 + 3, none⟩ = some (.int .i64 z) ∧ w.cell? ⟨b, off + j * 5 + 4, none⟩ = some (.string t)

theorem Tees.below {w w' : World} {a : Option Addr} {l : Nat} (h : Tees w a l) (hb : Below w.heap.size w w') : Tees w' a l := by
  rcases h with h | ⟨b, off, ha, hlt, hc⟩
  · exact .inl h
  · refine .inr ⟨b, off, ha, Nat.lt_of_lt_of_le hlt hb.size, fun j hj => ?_⟩
    obtain ⟨s, x, y, z, t, h0, h1, h2, h3, h4⟩ := hc j hj
    exact ⟨s, x, y, z, t, (hb.cell (p := ⟨b, off + j * 5, none⟩) hlt).trans h0, (hb.cell (p := ⟨b, off + j * 5 + 1, none⟩) hlt).trans h1, (hb.cell (p := ⟨b, off + j * 5 + 2, none⟩) hlt).trans h2, (hb.cell (p := ⟨b, off + j * 5 + 3, none⟩) hlt).trans h3, (hb.cell (p := ⟨b, off + j * 5 + 4, none⟩) hlt).trans h4⟩

theorem Tees.at {w : World} {a : Option Addr} {l : Nat} (h : Tees w a l) {j : Nat} (hj : j < l) : ∃ b off, a = some ⟨b, off, none⟩ ∧ b < w.heap.size ∧ ∃ (s : ByteArray) (x y z : Int) (t : ByteArray),
    w.cell? ⟨b, off + j * 5, none⟩ = some (.string s) ∧ w.cell? ⟨b, off + j * 5 + 1, none⟩ = some (.int .i64 x) ∧ w.cell? ⟨b, off + j * 5 + 2, none⟩ = some (.int .i64 y) ∧
    w.cell? ⟨b, off + j * 5 + 3, none⟩ = some (.int .i64 z) ∧ w.cell? ⟨b, off + j * 5 + 4, none⟩ = some (.string t) := by
  rcases h with h | ⟨b, off, ha, hlt, hc⟩
  · omega
  · exact ⟨b, off, ha, hlt, hc j hj⟩

/-- One row: a slice's address, length and capacity. -/
structure Roll where
  a : Option Addr
  l : Nat
  c : Nat

def Roll.val (r : Roll) : Value := .slice r.a r.l r.c
def nilRoll : Roll := ⟨none, 0, 0⟩

/-- The rows lie from address a on, each leading to its grantees. -/
def Rolls (w : World) (a : Option Addr) (rs : List Roll) : Prop :=
  rs = [] ∨ ∃ b off, a = some ⟨b, off, none⟩ ∧ b < w.heap.size ∧ ∀ i, i < rs.length → w.cell? ⟨b, off + i, none⟩ = some (.slice (rs.getD i nilRoll).a (rs.getD i nilRoll).l (rs.getD i nilRoll).c) ∧ Tees w (rs.getD i nilRoll).a (rs.getD i nilRoll).l

theorem Rolls.below {w w' : World} {a : Option Addr} {rs : List Roll} (h : Rolls w a rs) (hb : Below w.heap.size w w') : Rolls w' a rs := by
  rcases h with h | ⟨b, off, ha, hlt, hc⟩
  · exact .inl h
  · exact .inr ⟨b, off, ha, Nat.lt_of_lt_of_le hlt hb.size, fun i hi => ⟨(hb.cell (p := ⟨b, off + i, none⟩) hlt).trans (hc i hi).1, (hc i hi).2.below hb⟩⟩

theorem Rolls.at {w : World} {a : Option Addr} {rs : List Roll} (h : Rolls w a rs) {i : Nat} (hi : i < rs.length) : ∃ b off ra rl rc, rs.getD i nilRoll = ⟨ra, rl, rc⟩ ∧ a = some ⟨b, off, none⟩ ∧ b < w.heap.size ∧
    w.cell? ⟨b, off + i, none⟩ = some (.slice ra rl rc) ∧ Tees w ra rl := by
  rcases h with h | ⟨b, off, ha, hlt, hc⟩
  · subst h; simp at hi
  · exact ⟨b, off, _, _, _, rfl, ha, hlt, (hc i hi).1, (hc i hi).2⟩

def AnyBool (e : Ending) : Prop := ∃ r, e = .returned (.bool r)
theorem anyBool {e : Ending} {r : Bool} (h : e = .returned (.bool r)) : AnyBool e := ⟨r, h⟩

set_option maxHeartbeats 1000000 in
set_option maxRecDepth 100000 in
/-- zzBytes..: it answers a bool and only reads. -/
theorem bytes_any (a : Option Addr) (n cap : Nat) (rs : List Roll) (x : Int) (a' : Option Addr) (n' cap' : Nat) (w : World) (hs : Rolls w a rs) (hn : n = rs.length) (hs' : Tees w a' n') :
    Calls Try.prog 4 #[.slice a n cap, .int .i64 x, .slice a' n' cap'] w fun e w' => AnyBool e ∧ w' = w := by
  have hn1 : n ≤ rs.length := Nat.le_of_eq hn
  clear hn
  by_cases h1 : (1048576 : Int) < n
  · go_enter Try.func4, Try.ntmps4
    go_wp2
    go_ret; exact ⟨anyBool rfl, rfl⟩
  have d1 : decide ((1048576 : Int) < n) = false := decide_eq_false h1
  go_enter Try.func4, Try.ntmps4
  go_wp2
  go_loop [7, 8] (fun t i => ∃ (k : Nat) (x : Int), k ≤ n ∧ i = .int .i64 k ∧ t = .int .i64 x) (fun _ i => n - (intOf i).toNat)
  case atStart => exact ⟨0, _, Nat.zero_le _, rfl, rfl⟩
  case round =>
    obtain ⟨k, y, hk, rfl, rfl⟩ := hrel
    by_cases hlt : k < n
    · obtain ⟨b, off, ra, rl, rc, _, rfl, hb, hck, ht⟩ := hs.at (i := k) (by omega)
      rcases Bool.eq_false_or_eq_true (decide ((1048576 : Int) < rl)) with d2 | d2
      · go_wp2
        go_ret; exact ⟨anyBool rfl, rfl⟩
      have h2 : (rl : Int) ≤ 1048576 := by simpa using d2
      rcases Bool.eq_false_or_eq_true (decide ((1048576 : Int) < wrap64 (y + rl))) with d3 | d3
      · go_wp2
        go_ret; exact ⟨anyBool rfl, rfl⟩
      go_wp2
      go_loop [7, 9] (fun t i => ∃ (j : Nat) (x : Int), j ≤ rl ∧ i = .int .i64 j ∧ t = .int .i64 x) (fun _ i => rl - (intOf i).toNat)
      case atStart => exact ⟨0, _, Nat.zero_le _, rfl, rfl⟩
      case round =>
        obtain ⟨j, z, hj, rfl, rfl⟩ := hrel
        by_cases hlt' : j < rl
        · obtain ⟨b', off', rfl, hb', s, x0, y0, z0, t0, c0, c1, c2, c3, c4⟩ := ht.at hlt'
          clear c1 c2 c3 d2 d3
          go_wp2
          · go_ret; exact ⟨anyBool rfl, rfl⟩
          · go_ret; exact ⟨anyBool rfl, rfl⟩
          · go_ret; exact ⟨anyBool rfl, rfl⟩
          · go_ret; exact ⟨anyBool rfl, rfl⟩
          · exact ⟨⟨j + 1, _, by omega, by go_num, rfl⟩, by simp [intOf]; omega⟩
        · go_wp2
          exact ⟨⟨k + 1, _, by omega, by go_num, rfl⟩, by simp [intOf]; omega⟩
    · rcases Bool.eq_false_or_eq_true (decide ((1048576 : Int) < n')) with d4 | d4
      · go_wp2
        go_ret; exact ⟨anyBool rfl, rfl⟩
      have h4 : (n' : Int) ≤ 1048576 := by simpa using d4
      rcases Bool.eq_false_or_eq_true (decide ((1048576 : Int) < wrap64 (y + n'))) with d5 | d5
      · go_wp2
        go_ret; exact ⟨anyBool rfl, rfl⟩
      go_wp2
      go_loop [7, 10] (fun t i => ∃ (k : Nat) (x : Int), k ≤ n' ∧ i = .int .i64 k ∧ t = .int .i64 x) (fun _ i => n' - (intOf i).toNat)
      case atStart => exact ⟨0, _, Nat.zero_le _, rfl, rfl⟩
      case round =>
        obtain ⟨j, z, hj, rfl, rfl⟩ := hrel
        by_cases hlt' : j < n'
        · obtain ⟨b', off', rfl, hb', s, x0, y0, z0, t0, c0, c1, c2, c3, c4⟩ := hs'.at hlt'
          clear c1 c2 c3 d4 d5
          go_wp2
          · go_ret; exact ⟨anyBool rfl, rfl⟩
          · go_ret; exact ⟨anyBool rfl, rfl⟩
          · go_ret; exact ⟨anyBool rfl, rfl⟩
          · go_ret; exact ⟨anyBool rfl, rfl⟩
          · exact ⟨⟨j + 1, _, by omega, by go_num, rfl⟩, by simp [intOf]; omega⟩
        · go_wp2
          go_ret; exact ⟨anyBool rfl, rfl⟩

end Go.Proofs.Qxb6614325a
