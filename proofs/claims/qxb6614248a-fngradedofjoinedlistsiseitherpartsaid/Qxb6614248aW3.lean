import Derived.Test.Qxb6614248aW2
namespace Go.Proofs.Qxb6614248a
open Go.RowKit Go.Maps Go.WideMaps

theorem law9 : Keyed Try.prog 9 := string_keyed Try.underlying9

set_option maxHeartbeats 1000000 in
set_option maxRecDepth 100000 in
/-- No grade. -/
theorem plan_none (p q : ByteArray) (x : Int) (a : Option Addr) (n cap : Nat) (a' : Option Addr) (n' cap' : Nat) (ss' : List ByteArray) (w : World) (h0 : n ≤ 0) (hs' : Strs w a' ss') (hn' : n' = ss'.length) (hl : n' ≤ 65536) :
    Calls Try.prog 6 #[.string p, .string q, .int .i64 x, .slice a n cap, .slice a' n' cap'] w fun e w' => PlanOut w w' n n' e := by
  have hn2 : n' ≤ ss'.length := Nat.le_of_eq hn'
  clear hn'
  have hn0 : n = 0 := by omega
  have hmul : ∀ W b, MulOk W b (.map none) n := fun _ _ => .inl ⟨hn0, rfl⟩
  clear hn0
  by_cases h1 : 0 < n'
  · have hmk := run_make_bands n' hl
    go_enter Try.func6, Try.ntmps6
    go_wp2
    go_loopw [15] (fun i wr => ∃ k : Nat, k ≤ n' ∧ i = .int .i64 k ∧ Row wr (w.heap.size + 1) (n' * 4) ∧ Below w.heap.size w wr ∧ Half wr w.heap.size n (.slice none 0 0)) (fun i _ => n' - (intOf i).toNat)
    case atStart =>
      refine ⟨0, Nat.zero_le _, rfl, ?_, ((Below.refl _ _).alloc (Nat.le_refl _) _).alloc (by simp) _, Half.below ⟨_, box_new _ _ _ _ _ _ _ _ _ _ _ _ _ _ _ _ _ _ _ _ _ _ _ _ _ _ _ _ _, hmul _ _⟩ ((Below.refl _ _).alloc (Nat.le_refl _) _)⟩
      have h := Row.made (w.alloc (Obj.cells #[.string p, .string q, .int .u64 0, .int .i64 0, .pointer none, .int .i64 x, .string { data := #[] }, .pointer none, .slice none 0 0, .slice none 0 0, .map none, .slice none 0 0, .slice none 0 0, .pointer none, .slice none 0 0, .string { data := #[] }, .pointer none, .map none, .string { data := #[] }, .pointer none, .pointer none, .string { data := #[] }, .pointer none, .slice none 0 0, .pointer none, .slice none 0 0, .map none] 67)) #[.string ByteArray.empty, .pointer none, .string ByteArray.empty, .pointer none] (n' * 4) 69
      simpa using h
    case round =>
      obtain ⟨k, hk, rfl, hrow, hbw, hhalf⟩ := hrel
      by_cases hlt : k < n'
      · obtain ⟨b, off, rfl, hb, hck0⟩ := hs'.at (k := k) (by omega)
        have hck := (hbw.cell (p := ⟨b, off + k, none⟩) hb).trans hck0
        clear hck0
        obtain ⟨v0, hv0⟩ := hrow.cell (i := k * 4) (by omega)
        obtain ⟨v1, hv1⟩ := hrow.cell (i := k * 4 + 1) (by omega)
        obtain ⟨v2, hv2⟩ := hrow.cell (i := k * 4 + 2) (by omega)
        obtain ⟨v3, hv3⟩ := hrow.cell (i := k * 4 + 3) (by omega)
        have f0 := hrow.frozen (k * 4)
        have f1 := hrow.frozen (k * 4 + 1)
        have f2 := hrow.frozen (k * 4 + 2)
        have f3 := hrow.frozen (k * 4 + 3)
        go_wp2
        refine ⟨⟨k + 1, by omega, by go_num, (((hrow.setCell _ _).setCell _ _).setCell _ _).setCell _ _, (((hbw.setCell (Nat.le_succ _) _).setCell (Nat.le_succ _) _).setCell (Nat.le_succ _) _).setCell (Nat.le_succ _) _, ?_⟩, by simp [intOf]; omega⟩
        exact (((hhalf.other hrow (by omega) _ _).other (hrow.setCell _ _) (by omega) _ _).other ((hrow.setCell _ _).setCell _ _) (by omega) _ _).other (((hrow.setCell _ _).setCell _ _).setCell _ _) (by omega) _ _
      · obtain ⟨m, ⟨e10, e11, g10, g11⟩, ho⟩ := id hhalf
        go_wp2
        go_ret
        exact ⟨_, rfl, ⟨_, _, hhalf.store _⟩, hbw.setCell (Nat.le_refl _) _⟩
  · have h2 : n' ≤ 0 := by omega
    have h3 : n' = 0 := by omega
    have hfin : ∀ W b m, Box W b m (.slice none 0 0) → MulOk W b m n → ∃ a c, Half W b n (.slice a n' c) := fun W b m hx ho => ⟨none, 0, m, by rw [h3]; exact hx, ho⟩
    clear h3
    go_enter Try.func6, Try.ntmps6
    go_wp2
    go_ret
    exact ⟨_, rfl, hfin _ _ _ (box_new _ _ _ _ _ _ _ _ _ _ _ _ _ _ _ _ _ _ _ _ _ _ _ _ _ _ _ _ _) (hmul _ _), (Below.refl _ _).alloc (Nat.le_refl _) _⟩

end Go.Proofs.Qxb6614248a
