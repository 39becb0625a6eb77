import Derived.Test.Qxb6614335aW9
namespace Go.Proofs.Qxb6614335a
open Go.RowKit

theorem more_any (a0 : Option Addr) (n0 cap0 : Nat) (rn : List ByteArray) (a1 : Option Addr) (n1 cap1 : Nat) (rf : List ByteArray) (a2 : Option Addr) (n2 cap2 : Nat) (on : List ByteArray) (a3 : Option Addr) (n3 cap3 : Nat) (og : List ByteArray) (c v u : ByteArray) (w : World)
    (hs0 : Strs w a0 rn) (hn0 : n0 = rn.length) (hs1 : Strs w a1 rf) (hn1 : n1 = rf.length) (hs2 : Strs w a2 on) (hn2 : n2 = on.length) (hs3 : Strs w a3 og) (hn3 : n3 = og.length)
    (hz0 : ∀ s ∈ rn, s.size ≤ maxLen) (hz2 : ∀ s ∈ on, s.size ≤ maxLen) (hzc : c.size ≤ maxLen) :
    Calls Try.prog 3 #[.slice a0 n0 cap0, .slice a1 n1 cap1, .slice a2 n2 cap2, .slice a3 n3 cap3, .string c, .string v, .string u] w fun e w' => e = .returned (.bool true) ∧ Below w.heap.size w w' := by
  by_cases hb : (65536 : Int) < n0 ∨ (65536 : Int) < n1 ∨ (65536 : Int) < n2 ∨ (65536 : Int) < n3 ∨ (65536 : Int) < c.size ∨ (65536 : Int) < v.size ∨ (65536 : Int) < u.size
  · exact more_big a0 n0 cap0 rn a1 n1 cap1 rf a2 n2 cap2 on a3 n3 cap3 og c v u w hs0 hn0 hs1 hn1 hs2 hn2 hs3 hn3 hb
  by_cases ho : ¬ n1 = n0 ∨ ¬ n3 = n2
  · exact more_out a0 n0 cap0 rn a1 n1 cap1 rf a2 n2 cap2 on a3 n3 cap3 og c v u w hs0 hn0 hs1 hn1 hs2 hn2 hs3 hn3 (by omega) (by omega) (by omega) (by omega) (by omega) (by omega) (by omega) ho
  obtain rfl : n1 = n0 := Classical.byContradiction (fun h => ho (.inl h))
  obtain rfl : n3 = n2 := Classical.byContradiction (fun h => ho (.inr h))
  exact more_in a0 n1 cap0 rn a1 cap1 rf a2 n3 cap2 on a3 cap3 og c v u w hs0 hn0 hs1 hn1 hs2 hn2 hs3 hn3 hz0 hz2 hzc (by omega) (by omega) (by omega) (by omega) (by omega)

end Go.Proofs.Qxb6614335a
