import Derived.Test.Qxb6614335aRows
import Derived.WalkKit
import Derived.WalkSpells
namespace Go.Proofs.Qxb6614335a
open Go.RowKit

/-- The strings ss lie from address a on (nothing is said of a where there are none). -/
def Strs (w : World) (a : Option Addr) (ss : List ByteArray) : Prop :=
  ss = [] ∨ ∃ b off, a = some ⟨b, off, none⟩ ∧ b < w.heap.size ∧ ∀ j, j < ss.length → w.cell? ⟨b, off + j, none⟩ = some (.string (ss.getD j ByteArray.empty))

theorem Strs.below {w w' : World} {a : Option Addr} {ss : List ByteArray} (h : Strs w a ss) (hb : Below w.heap.size w w') : Strs w' a ss := by
  rcases h with h | ⟨b, off, ha, hlt, hc⟩
  · exact .inl h
  · exact .inr ⟨b, off, ha, Nat.lt_of_lt_of_le hlt hb.size, fun j hj => (hb.cell (p := ⟨b, off + j, none⟩) hlt).trans (hc j hj)⟩

theorem Strs.at {w : World} {a : Option Addr} {ss : List ByteArray} (h : Strs w a ss) {k : Nat} (hk : k < ss.length) :
    ∃ b off, a = some ⟨b, off, none⟩ ∧ b < w.heap.size ∧ w.cell? ⟨b, off + k, none⟩ = some (.string (ss.getD k ByteArray.empty)) := by
  rcases h with h | ⟨b, off, ha, hlt, hc⟩
  · subst h; simp at hk
  · exact ⟨b, off, ha, hlt, hc k hk⟩

def AnyBool (e : Ending) : Prop := ∃ r, e = .returned (.bool r)
theorem anyBool {e : Ending} {r : Bool} (h : e = .returned (.bool r)) : AnyBool e := ⟨r, h⟩
def AnyInt (e : Ending) : Prop := ∃ x, e = .returned (.int .i64 x)
theorem anyInt {e : Ending} {r : Int} (h : e = .returned (.int .i64 r)) : AnyInt e := ⟨r, h⟩

set_option maxHeartbeats 2000000 in
set_option maxRecDepth 100000 in
/-- zzBytes of the law on order: it answers a bool and only reads. -/
theorem bytes2 (a0 : Option Addr) (n0 cap0 : Nat) (ss0 : List ByteArray) (a1 : Option Addr) (n1 cap1 : Nat) (ss1 : List ByteArray) (x y : Int) (p : ByteArray) (w : World) (hs0 : Strs w a0 ss0) (hn0 : n0 = ss0.length) (hs1 : Strs w a1 ss1) (hn1 : n1 = ss1.length) :
    Calls Try.prog 15 #[.slice a0 n0 cap0, .slice a1 n1 cap1, .int .i64 x, .int .i64 y, .string p] w fun e w' => AnyBool e ∧ w' = w := by
  have hm0 : n0 ≤ ss0.length := Nat.le_of_eq hn0
  have hm1 : n1 ≤ ss1.length := Nat.le_of_eq hn1
  clear hn0 hn1
  by_cases h1 : (1048576 : Int) < n0
  · go_enter Try.func15, Try.ntmps15
    go_wp2
    go_ret; exact ⟨anyBool rfl, rfl⟩
  have d1 : decide ((1048576 : Int) < n0) = false := decide_eq_false h1
  go_enter Try.func15, Try.ntmps15
  go_wp2
  go_loop [11, 12] (fun t i => ∃ (k : Nat) (x : Int), k ≤ n0 ∧ i = .int .i64 k ∧ t = .int .i64 x) (fun _ i => n0 - (intOf i).toNat)
  case atStart => exact ⟨0, _, Nat.zero_le _, rfl, rfl⟩
  case round =>
    obtain ⟨k0, y0, hk0, rfl, rfl⟩ := hrel
    by_cases hlt0 : k0 < n0
    · obtain ⟨b, off, rfl, hb, hck⟩ := hs0.at (k := k0) (by omega)
      go_wp2
      · go_ret; exact ⟨anyBool rfl, rfl⟩
      · go_ret; exact ⟨anyBool rfl, rfl⟩
      · exact ⟨⟨k0 + 1, _, by omega, by go_num, rfl⟩, by simp [intOf]; omega⟩
    rcases Bool.eq_false_or_eq_true (decide ((1048576 : Int) < n1)) with d1a | d1a
    · go_wp2
      go_ret; exact ⟨anyBool rfl, rfl⟩
    have g1 : (n1 : Int) ≤ 1048576 := by simpa using d1a
    rcases Bool.eq_false_or_eq_true (decide ((1048576 : Int) < wrap64 (y0 + n1))) with d1b | d1b
    · go_wp2
      go_ret; exact ⟨anyBool rfl, rfl⟩
    go_wp2
    go_loop [11, 13] (fun t i => ∃ (k : Nat) (x : Int), k ≤ n1 ∧ i = .int .i64 k ∧ t = .int .i64 x) (fun _ i => n1 - (intOf i).toNat)
    case atStart => exact ⟨0, _, Nat.zero_le _, rfl, rfl⟩
    case round =>
      obtain ⟨k1, y1, hk1, rfl, rfl⟩ := hrel
      by_cases hlt1 : k1 < n1
      · obtain ⟨b, off, rfl, hb, hck⟩ := hs1.at (k := k1) (by omega)
        go_wp2
        · go_ret; exact ⟨anyBool rfl, rfl⟩
        · go_ret; exact ⟨anyBool rfl, rfl⟩
        · exact ⟨⟨k1 + 1, _, by omega, by go_num, rfl⟩, by simp [intOf]; omega⟩
      go_wp2
      all_goals (go_ret; exact ⟨anyBool rfl, rfl⟩)

set_option maxHeartbeats 400000 in
set_option maxRecDepth 100000 in
/-- zzAddStrings: it answers a number and only reads. -/
theorem adds_any (t : Int) (a : Option Addr) (n cap : Nat) (ss : List ByteArray) (w : World) (hs : Strs w a ss) (hn : n = ss.length) (hl : n ≤ 65536) :
    Calls Try.prog 6 #[.int .i64 t, .slice a n cap] w fun e w' => AnyInt e ∧ w' = w := by
  have hn1 : n ≤ ss.length := Nat.le_of_eq hn
  clear hn
  by_cases h1 : (1048576 : Int) < t
  · go_enter Try.func6, Try.ntmps6
    go_wp2
    go_ret; exact ⟨anyInt rfl, rfl⟩
  have h2 : decide ((1048576 : Int) < t) = false := decide_eq_false h1
  clear h1
  go_enter Try.func6, Try.ntmps6
  go_wp2
  go_loop [0, 5] (fun t i => ∃ (k : Nat) (x : Int), k ≤ n ∧ i = .int .i64 k ∧ t = .int .i64 x) (fun _ i => n - (intOf i).toNat)
  case atStart => exact ⟨0, _, Nat.zero_le _, rfl, rfl⟩
  case round =>
    obtain ⟨k, x, hk, rfl, rfl⟩ := hrel
    by_cases hlt : k < n
    · obtain ⟨b, off, rfl, hb, hck⟩ := hs.at (k := k) (by omega)
      go_wp2
      · go_ret; exact ⟨anyInt rfl, rfl⟩
      · exact ⟨⟨k + 1, _, by omega, by go_num, rfl⟩, by simp [intOf]; omega⟩
    · go_wp2
      go_ret; exact ⟨anyInt rfl, rfl⟩

/-- zzAddString: it answers a number. -/
theorem add1_any (t : Int) (p : ByteArray) (w : World) : Calls Try.prog 7 #[.int .i64 t, .string p] w fun e w' => AnyInt e ∧ w' = w := by
  go_enter Try.func7, Try.ntmps7
  go_wp2
  all_goals (go_ret; exact ⟨anyInt rfl, rfl⟩)

end Go.Proofs.Qxb6614335a
