import Derived.Test.Qxb6614244aRows
import Derived.WalkKit
import Derived.WalkSpells
import Derived.Outline
namespace Go.Proofs.Qxb6614244a
open Go.RowKit

/-- The strings ss lie from address a on (nothing is said of a where there are none). -/
def Strs (w : World) (a : Option Addr) (ss : List ByteArray) : Prop :=
  ss = [] ∨ ∃ b off, a = some ⟨b, off, none⟩ ∧ b < w.heap.size ∧ ∀ j, j < ss.length → w.cell? ⟨b, off + j, none⟩ = some (.string (ss.getD j ByteArray.empty))

theorem Strs.below {w w' : World} {a : Option Addr} {ss : List ByteArray} (h : Strs w a ss) (hb : Below w.heap.size w w') : Strs w' a ss := by
  rcases h with h | ⟨b, off, ha, hlt, hc⟩
  · exact .inl h
  · exact .inr ⟨b, off, ha, Nat.lt_of_lt_of_le hlt hb.size, fun j hj => (hb.cell (p := ⟨b, off + j, none⟩) hlt).trans (hc j hj)⟩

def AnyBool (e : Ending) : Prop := ∃ r, e = .returned (.bool r)
theorem anyBool {e : Ending} {r : Bool} (h : e = .returned (.bool r)) : AnyBool e := ⟨r, h⟩
def AnyInt (e : Ending) : Prop := ∃ x, e = .returned (.int .i64 x)
theorem anyInt {e : Ending} {r : Int} (h : e = .returned (.int .i64 r)) : AnyInt e := ⟨r, h⟩

set_option maxHeartbeats 400000 in
set_option maxRecDepth 100000 in
/-- zzBytes..: it answers a bool and only reads. -/
theorem bytes_any (a : Option Addr) (n cap : Nat) (ss : List ByteArray) (p : ByteArray) (w : World) (hs : Strs w a ss) (hn : n = ss.length) :
    Calls Try.prog 4 #[.slice a n cap, .string p] w fun e w' => AnyBool e ∧ w' = w := by
  rcases hs with rfl | ⟨b, off, rfl, hb, hc⟩
  · subst hn
    go_enter Try.func4, Try.ntmps4
    go_wp2
    refine wp_loop_rounds 1 ?_
    rw [rounds_succ]
    go_wp2
    all_goals (go_ret; exact ⟨anyBool rfl, rfl⟩)
  · have hn1 : n ≤ ss.length := Nat.le_of_eq hn
    clear hn
    by_cases h1 : (1048576 : Int) < n
    · go_enter Try.func4, Try.ntmps4
      go_wp2
      go_ret; exact ⟨anyBool rfl, rfl⟩
    have h2 : decide ((1048576 : Int) < n) = false := decide_eq_false h1
    go_enter Try.func4, Try.ntmps4
    go_wp2
    go_loop [5, 6] (fun t i => ∃ (k : Nat) (x : Int), k ≤ n ∧ i = .int .i64 k ∧ t = .int .i64 x) (fun _ i => n - (intOf i).toNat)
    case atStart => exact ⟨0, _, Nat.zero_le _, rfl, rfl⟩
    case round =>
      obtain ⟨k, x, hk, rfl, rfl⟩ := hrel
      by_cases hlt : k < n
      · have hck := hc k (by omega)
        go_wp2
        · go_ret; exact ⟨anyBool rfl, rfl⟩
        · go_ret; exact ⟨anyBool rfl, rfl⟩
        · exact ⟨⟨k + 1, _, by omega, by go_num, rfl⟩, by simp [intOf]; omega⟩
      · go_wp2
        all_goals (go_ret; exact ⟨anyBool rfl, rfl⟩)

end Go.Proofs.Qxb6614244a
