import Derived.Test.Qxb6614325aW4
namespace Go.Proofs.Qxb6614325a
open Go.RowKit

set_option maxHeartbeats 400000 in
theorem clos_any (v0 v1 v2 v3 v4 v5 v6 v7 v8 v9 v10 : Value) (a : Option Addr) (l c : Nat) (w : World) :
    Calls Try.prog 11 #[.agg #[v0, v1, v2, v3, v4, v5, v6, v7, v8, v9, v10, .slice a l c]] w fun e w' => e = .returned (.bool a.isSome) ∧ Below w.heap.size w w' := by
  have q33 : ∀ (w : World) (a : Option Addr) (n c : Nat), (binOp .neq 33 (.slice a n c) (.slice none 0 0)).run Try.prog w = .ok (.bool (!a.isNone)) w := fun w a n c => run_neq_slice_nil_any w _ _ _ _ _ _ _ Try.underlying33
  go_enter Try.func11, Try.ntmps11
  go_wp2
  go_ret
  exact ⟨rfl, (Below.refl _ _).alloc (Nat.le_refl _) _⟩

/-- Does some row lead to a list that is not nil? -/
def hasB (rs : List Roll) : Bool := rs.any (fun r => !r.a.isNone)

theorem hasB_none {rs : List Roll} (h : ∀ i, i < rs.length → (rs.getD i nilRoll).a.isNone = true) : hasB rs = false := by
  rw [hasB, List.any_eq_false]
  intro r hr
  obtain ⟨i, hi, rfl⟩ := List.getElem_of_mem hr
  have := h i hi
  rw [List.getD, List.getElem?_eq_getElem hi] at this
  simpa using this
theorem hasB_some {rs : List Roll} {i : Nat} (hi : i < rs.length) (h : (rs.getD i nilRoll).a.isNone = false) : hasB rs = true := by
  rw [hasB, List.any_eq_true]
  rw [List.getD, List.getElem?_eq_getElem hi] at h
  exact ⟨rs[i], List.getElem_mem hi, by simpa using h⟩

def IdxOut (rs : List Roll) (w w' : World) (e : Ending) : Prop := ∃ y : Int, e = .returned (.int .i64 y) ∧ decide (0 ≤ y) = hasB rs ∧ Below w.heap.size w w'

set_option maxHeartbeats 1000000 in
set_option maxRecDepth 100000 in
theorem idx_any (ga : Option Addr) (n gc : Nat) (rs : List Roll) (w : World) (hg : Grants w ga rs) (hn : n = rs.length) (hl : n ≤ 65537) :
    Calls Try.prog 12 #[.slice ga n gc, .func (.func 11) #[] #[]] w fun e w' => IdxOut rs w w' e := by
  have Hn : Hid (n = rs.length) := hn
  clear hn
  go_enter Try.func12, Try.ntmps12
  go_wp2
  go_loopw [8] (fun i wr => ∃ k : Nat, k ≤ n ∧ i = .int .i64 k ∧ Below w.heap.size w wr ∧ ∀ i, i < k → (rs.getD i nilRoll).a.isNone = true) (fun i _ => n - (intOf i).toNat)
  case atStart => exact ⟨0, Nat.zero_le _, rfl, Below.refl _ _, fun i hi => absurd hi (Nat.not_lt_zero _)⟩
  case round =>
    obtain ⟨k, hk, rfl, hbw, hno⟩ := hrel
    have Hno : Hid (∀ i, i < k → (rs.getD i nilRoll).a.isNone = true) := hno
    clear hno
    by_cases hlt : k < n
    · have hgr := hg.below hbw
      rcases hgr with h | ⟨bg, rfl, hrow, hnil⟩
      · exact absurd (by rw [Hn.out, h] at hlt; exact hlt) (Nat.not_lt_zero _)
      have hkl : k < rs.length := by rw [← Hn.out]; exact hlt
      obtain ⟨a', l', c', h11, hal⟩ := hnil k hkl
      obtain ⟨v0, h0⟩ := hrow.cell (i := k * 12) (by omega)
      obtain ⟨v1, h1⟩ := hrow.cell (i := k * 12 + 1) (by omega)
      obtain ⟨v2, h2⟩ := hrow.cell (i := k * 12 + 2) (by omega)
      obtain ⟨v3, h3⟩ := hrow.cell (i := k * 12 + 3) (by omega)
      obtain ⟨v4, h4⟩ := hrow.cell (i := k * 12 + 4) (by omega)
      obtain ⟨v5, h5⟩ := hrow.cell (i := k * 12 + 5) (by omega)
      obtain ⟨v6, h6⟩ := hrow.cell (i := k * 12 + 6) (by omega)
      obtain ⟨v7, h7⟩ := hrow.cell (i := k * 12 + 7) (by omega)
      obtain ⟨v8, h8⟩ := hrow.cell (i := k * 12 + 8) (by omega)
      obtain ⟨v9, h9⟩ := hrow.cell (i := k * 12 + 9) (by omega)
      obtain ⟨v10, h10⟩ := hrow.cell (i := k * 12 + 10) (by omega)
      have Hal : Hid (a'.isNone = (rs.getD k nilRoll).a.isNone) := hal
      clear hal hnil hg
      have hz := hbw.size
      go_wp2_with (first
        | (go_at_call 11; refine (clos_any v0 v1 v2 v3 v4 v5 v6 v7 v8 v9 v10 a' l' c' _).mono ?_; rintro e w1 ⟨rfl, hb1⟩; rcases Bool.eq_false_or_eq_true a'.isSome with hq | hq))
      · have hs : (rs.getD k nilRoll).a.isNone = false := by rw [← Hal.out]; cases a' with | none => cases hq | some _ => rfl
        have hfin : IdxOut rs w w1 (.returned (.int .i64 k)) := ⟨k, rfl, by rw [hasB_some hkl hs]; simp, hbw.trans (hb1.mono hz)⟩
        go_ret
        exact hfin
      · have hs : (rs.getD k nilRoll).a.isNone = true := by rw [← Hal.out]; cases a' with | none => rfl | some _ => cases hq
        refine ⟨⟨k + 1, by omega, by go_num, hbw.trans (hb1.mono hz), fun i hi => ?_⟩, by simp [intOf]; omega⟩
        by_cases e : i = k
        · subst e; exact hs
        · exact Hno.out i (by omega)
    · have hfin : IdxOut rs w wr (.returned (.int .i64 (-1))) := ⟨-1, rfl, by rw [hasB_none (fun i hi => Hno.out i (by rw [← Hn.out] at hi; omega))]; rfl, hbw⟩
      go_wp2
      go_ret
      exact hfin

def BoolOut (b : Bool) (w w' : World) (e : Ending) : Prop := e = .returned (.bool b) ∧ Below w.heap.size w w'

theorem contains_any (ga : Option Addr) (n gc : Nat) (rs : List Roll) (w : World) (hg : Grants w ga rs) (hn : n = rs.length) (hl : n ≤ 65537) :
    Calls Try.prog 10 #[.slice ga n gc, .func (.func 11) #[] #[]] w fun e w' => BoolOut (hasB rs) w w' e := by
  have Hn : Hid (n = rs.length) := hn
  clear hn
  go_enter Try.func10, Try.ntmps10
  go_wp2_with (first
    | (go_at_call 12; refine (idx_any ga n gc rs _ hg Hn.out hl).mono ?_; rintro e w1 ⟨y, rfl, hy, hb1⟩))
  go_ret
  exact ⟨rfl, hb1⟩

theorem roster_any (b : Nat) (rs : List Roll) (w : World) (hm : Made w b rs) (hl : rs.length ≤ 65537) :
    Calls Try.prog 8 #[.pointer (some ⟨b, 0, none⟩)] w fun e w' => BoolOut (hasB rs) w w' e := by
  obtain ⟨ga, gc, h4, hg⟩ := hm
  go_enter Try.func8, Try.ntmps8
  go_wp2_with (first
    | (go_at_call 10; refine (contains_any ga rs.length gc rs _ hg rfl hl).mono ?_; rintro e w1 ⟨rfl, hb1⟩))
  go_ret
  exact ⟨rfl, hb1⟩

end Go.Proofs.Qxb6614325a
