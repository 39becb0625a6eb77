import Derived.Test.Qxb6614248aW5
namespace Go.Proofs.Qxb6614248a
open Go.RowKit Go.Maps Go.WideMaps

/-! ### Cuts of a slice -/
def lowA (a : Option Addr) (cap g : Nat) : Option Addr := if cap = g then a else a.map (·.add g)

theorem elem22 : Try.prog.underlying 22 = some (.slice (Try.prog.elem 22)) := by kernel_rfl
theorem size22 (w : World) : (Go.sizeOf (Try.prog.elem 22)).run Try.prog w = .ok 1 w := by kernel_rfl

theorem slice_hi (a : Option Addr) (n cap g : Nat) (hg : g ≤ cap) (w : World) : (Instr.slice 22 (.slice a n cap) none (some (.int .i64 (g : Int))) none).run Try.prog w = .ok (.slice a g cap) w := by
  rw [run_slice_h w 22 a n cap elem22 .i64 g (by omega) (by omega), size22]
  simp [Result.andThen, sliced]
  intro _
  cases a <;> simp [Addr.add]

theorem slice_lo (a : Option Addr) (n cap g : Nat) (hg : g ≤ n) (w : World) : (Instr.slice 22 (.slice a n cap) (some (.int .i64 (g : Int))) none none).run Try.prog w = .ok (.slice (lowA a cap g) (n - g) (cap - g)) w := by
  rw [run_slice_l w 22 a n cap elem22 .i64 g (by omega) (by omega), size22]
  simp [Result.andThen, sliced, lowA]

theorem Strs.take {w : World} {a : Option Addr} {ss : List ByteArray} (h : Strs w a ss) (g : Nat) : Strs w a (ss.take g) := by
  rcases h with h | ⟨b, off, ha, hlt, hc⟩
  · subst h; exact .inl (by simp)
  · refine .inr ⟨b, off, ha, hlt, fun j hj => ?_⟩
    simp only [List.length_take] at hj
    rw [List.getD, List.getElem?_take_of_lt (by omega), ← List.getD]
    exact hc j (by omega)

theorem Strs.drop {w : World} {a : Option Addr} {ss : List ByteArray} (h : Strs w a ss) {cap : Nat} (hc : ss.length ≤ cap) (g : Nat) : Strs w (lowA a cap g) (ss.drop g) := by
  by_cases hg : ss.length ≤ g
  · exact .inl (List.drop_eq_nil_of_le hg)
  rcases h with h | ⟨b, off, ha, hlt, hcl⟩
  · subst h; simp at hg
  · refine .inr ⟨b, off + g, ?_, hlt, fun j hj => ?_⟩
    · rw [lowA, if_neg (by omega), ha]; simp [Addr.add]
    · simp only [List.length_drop] at hj
      rw [List.getD, List.getElem?_drop, ← List.getD, Nat.add_assoc]
      exact hcl (g + j) (by omega)

end Go.Proofs.Qxb6614248a
