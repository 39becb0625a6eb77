import Derived.Test.Qxb6614325aW5
namespace Go.Proofs.Qxb6614325a
open Go.RowKit

/-! ### The rows with one put in, no Go in sight -/
def put (rs : List Roll) (g : Nat) (r : Roll) : List Roll := rs.take g ++ r :: rs.drop g

theorem put_length {rs : List Roll} {g : Nat} (hg : g ≤ rs.length) (r : Roll) : (put rs g r).length = rs.length + 1 := by
  simp [put]; omega
theorem put_getD {rs : List Roll} {g : Nat} (hg : g ≤ rs.length) (r : Roll) (j : Nat) (hj : j ≤ rs.length) :
    (put rs g r).getD j nilRoll = if j < g then rs.getD j nilRoll else if j = g then r else rs.getD (j - 1) nilRoll := by
  unfold put
  by_cases h1 : j < g
  · rw [if_pos h1, List.getD, List.getElem?_append_left (by simp; omega), List.getElem?_take_of_lt h1, ← List.getD]
  · rw [if_neg h1, List.getD, List.getElem?_append_right (by simp; omega)]
    simp only [List.length_take, Nat.min_eq_left hg]
    by_cases h2 : j = g
    · subst h2; simp
    · rw [if_neg h2]
      obtain ⟨d, rfl⟩ : ∃ d, j = g + 1 + d := ⟨j - g - 1, by omega⟩
      rw [show g + 1 + d - g = d + 1 by omega, List.getElem?_cons_succ, List.getElem?_drop, ← List.getD]
      congr 1; omega
theorem hasB_put {rs : List Roll} {g : Nat} (r : Roll) : hasB (put rs g r) = (hasB rs || r.a.isSome) := by
  have h : hasB rs = (hasB (rs.take g) || hasB (rs.drop g)) := by
    unfold hasB; rw [← List.any_append, List.take_append_drop]
  have h2 : (!r.a.isNone) = r.a.isSome := by cases r.a <;> rfl
  rw [h]
  unfold put hasB
  rw [List.any_append, List.any_cons, h2]
  cases List.any (rs.take g) (fun r => !r.a.isNone) <;> cases List.any (rs.drop g) (fun r => !r.a.isNone) <;> simp

/-- grants2 after k rounds of the copying loop. -/
def ins (rs : List Roll) (g k j : Nat) : Value :=
  if j < k ∧ j < g then (rs.getD j nilRoll).val else if g < j ∧ j ≤ k then (rs.getD (j - 1) nilRoll).val else .slice none 0 0

theorem ins_low {rs : List Roll} {g k : Nat} (h : k < g) (j : Nat) : (if j = k then (rs.getD k nilRoll).val else ins rs g k j) = ins rs g (k + 1) j := by
  unfold ins
  by_cases e : j = k
  · subst e; rw [if_pos rfl, if_pos (by omega)]
  · rw [if_neg e]
    by_cases h1 : j < k ∧ j < g
    · rw [if_pos h1, if_pos (by omega)]
    · rw [if_neg h1, if_neg (by omega), if_neg (by omega), if_neg (by omega)]
theorem ins_high {rs : List Roll} {g k : Nat} (h : ¬ k < g) (j : Nat) : (if j = k + 1 then (rs.getD k nilRoll).val else ins rs g k j) = ins rs g (k + 1) j := by
  unfold ins
  by_cases e : j = k + 1
  · subst e; rw [if_pos rfl, if_neg (by omega), if_pos (by omega)]; rfl
  · rw [if_neg e]
    by_cases h1 : j < k ∧ j < g
    · rw [if_pos h1, if_pos (by omega)]
    · rw [if_neg h1]
      by_cases h2 : g < j ∧ j ≤ k
      · rw [if_pos h2, if_neg (by omega), if_pos (by omega)]
      · rw [if_neg h2, if_neg (by omega), if_neg (by omega)]
theorem ins_done {rs : List Roll} {g : Nat} (hg : g ≤ rs.length) (r : Roll) (j : Nat) (hj : j ≤ rs.length) : (if j = g then r.val else ins rs g rs.length j) = ((put rs g r).getD j nilRoll).val := by
  rw [put_getD hg r j hj]
  unfold ins
  by_cases e : j = g
  · subst e; rw [if_pos rfl, if_neg (Nat.lt_irrefl _), if_pos rfl]
  · rw [if_neg e]
    by_cases h1 : j < g
    · rw [if_pos (by omega), if_pos h1]
    · rw [if_neg (by omega), if_pos (by omega), if_neg h1, if_neg e]

theorem rolls_put {W w : World} {a : Option Addr} {rs : List Roll} {g B n : Nat} {r : Roll} (hg : g ≤ rs.length) (hn : n = rs.length) (hs : Rolls w a rs) (hb : Below w.heap.size w W) (hr : Tees w r.a r.l)
    (hrow : W.rowIs B 23 (n + 1) (fun j => if j = g then r.val else ins rs g n j)) : Rolls W (some ⟨B, 0, none⟩) (put rs g r) := by
  subst hn
  refine .inr ⟨B, 0, rfl, hrow.lt, fun i hi => ?_⟩
  rw [put_length hg] at hi
  refine ⟨?_, ?_⟩
  · rw [Nat.zero_add, hrow.cell hi, ins_done hg r i (by omega)]; rfl
  · rw [put_getD hg r i (by omega)]
    have hall : ∀ i, i < rs.length → Tees W (rs.getD i nilRoll).a (rs.getD i nilRoll).l := fun i hi => by
      obtain ⟨b, off, ra, rl, rc, e, _, _, _, ht⟩ := hs.at hi
      rw [e]; exact ht.below hb
    by_cases h1 : i < g
    · rw [if_pos h1]; exact hall i (by omega)
    · rw [if_neg h1]
      by_cases h2 : i = g
      · rw [if_pos h2]; exact hr.below hb
      · rw [if_neg h2]; exact hall (i - 1) (by omega)

theorem short_put {rs : List Roll} {g n : Nat} {r : Roll} (hg : g ≤ rs.length) (hn : n = rs.length) (hall : ∀ i, i < n → (rs.getD i nilRoll).l ≤ 32768) (hr : r.l ≤ 32768) : ∀ i, i < n + 1 → ((put rs g r).getD i nilRoll).l ≤ 32768 := by
  subst hn
  intro i hi
  rw [put_getD hg r i (by omega)]
  by_cases h1 : i < g
  · rw [if_pos h1]; exact hall i (by omega)
  · rw [if_neg h1]
    by_cases h2 : i = g
    · rw [if_pos h2]; exact hr
    · rw [if_neg h2]; exact hall (i - 1) (by omega)

theorem Try.info23 : (Try.prog.info? 23).map (fun i => (i.zero, i.size, i.bytes)) = some (some (.slice none 0 0), 1, 24) := by kernel_rfl
theorem run_make_rolls (n : Nat) (hn : n ≤ 65536) (w : World) :
    (Instr.makeSlice 22 (.int .i64 ((n : Int) + 1)) (.int .i64 ((n : Int) + 1))).run Try.prog w = .ok (.slice (some ⟨w.heap.size, 0, none⟩) (n + 1) (n + 1)) (w.alloc (.cells (madeCells #[.slice none 0 0] (n + 1)) 23)) := by
  have h := run_make_row' (P := Try.prog) 22 23 (.slice none 0 0) 24 Try.underlying22 Try.info23 rfl .i64 .i64 (n + 1) (by omega) (by omega) w
  have ec : ((n + 1 : Nat) : Int) = (n : Int) + 1 := by omega
  rw [ec] at h
  exact h

end Go.Proofs.Qxb6614325a
