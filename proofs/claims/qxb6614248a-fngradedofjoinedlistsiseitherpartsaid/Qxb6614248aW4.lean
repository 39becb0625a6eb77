import Derived.Test.Qxb6614248aW3
namespace Go.Proofs.Qxb6614248a
open Go.RowKit Go.Maps Go.WideMaps

set_option maxHeartbeats 1000000 in
set_option maxRecDepth 100000 in
/-- Some grade. -/
theorem plan_some (p q : ByteArray) (x : Int) (a : Option Addr) (n cap : Nat) (ss : List ByteArray) (a' : Option Addr) (n' cap' : Nat) (ss' : List ByteArray) (w : World) (h0 : 0 < n) (hl0 : n ≤ 65536) (hs : Strs w a ss) (hn : n = ss.length) (hsz : ∀ s ∈ ss, s.size ≤ maxLen)
    (hs' : Strs w a' ss') (hn' : n' = ss'.length) (hl : n' ≤ 65536) :
    Calls Try.prog 6 #[.string p, .string q, .int .i64 x, .slice a n cap, .slice a' n' cap'] w fun e w' => PlanOut w w' n n' e := by
  have hn2 : n' ≤ ss'.length := Nat.le_of_eq hn'
  have hn1 : n ≤ ss.length := Nat.le_of_eq hn
  clear hn' hn
  have hmm := run_makeMap_hint Try.underlying51 .i64 (n : Int)
  have hfin : n' ≤ 0 → ∀ W b, Half W b n (.slice none 0 0) → ∃ a c, Half W b n (.slice a n' c) := fun h3 W b hx => ⟨none, 0, by rw [show n' = 0 by omega]; exact hx⟩
  go_enter Try.func6, Try.ntmps6
  go_wp2
  go_loopw [13] (fun i wr => ∃ k : Nat, k ≤ n ∧ i = .int .i64 k ∧ (∃ D, wr.ownsMap Try.prog 9 anyElem (w.heap.size + 1) k D ∧ (0 < k → 0 < Maps.size D)) ∧ Box wr w.heap.size (.map none) (.slice none 0 0) ∧ Below w.heap.size w wr) (fun i _ => n - (intOf i).toNat)
  case atStart =>
    refine ⟨0, Nat.zero_le _, rfl, ⟨.map [], ?_, fun h => absurd h (Nat.lt_irrefl _)⟩, (box_new _ _ _ _ _ _ _ _ _ _ _ _ _ _ _ _ _ _ _ _ _ _ _ _ _ _ _ _ _).of_block (Below.heap_alloc _ _ _ (by simp)), ((Below.refl _ _).alloc (Nat.le_refl _) _).alloc (by simp) _⟩
    have h := World.ownsMap_made (w.alloc (Obj.cells #[.string p, .string q, .int .u64 0, .int .i64 0, .pointer none, .int .i64 x, .string { data := #[] }, .pointer none, .slice none 0 0, .slice none 0 0, .map none, .slice none 0 0, .slice none 0 0, .pointer none, .slice none 0 0, .string { data := #[] }, .pointer none, .map none, .string { data := #[] }, .pointer none, .pointer none, .string { data := #[] }, .pointer none, .slice none 0 0, .pointer none, .slice none 0 0, .map none] 67)) Try.prog 9 anyElem
    simpa using h
  case round =>
    obtain ⟨k, hk, rfl, ⟨D, hown, hD⟩, hbox, hbw⟩ := hrel
    by_cases hlt : k < n
    · obtain ⟨b, off, rfl, hb, hck0⟩ := hs.at (k := k) (by omega)
      have hck := (hbw.cell (p := ⟨b, off + k, none⟩) hb).trans hck0
      clear hck0
      have hsk : (ss[k]?.getD ByteArray.empty).size ≤ maxLen := hsz _ (by rw [List.getElem?_eq_getElem (by omega)]; exact List.getElem_mem _)
      have hkey : keyOf Try.prog 9 (.string (ss[k]?.getD ByteArray.empty)) = some (.string (ss[k]?.getD ByteArray.empty).data.toList) := keyOf_string_mk Try.underlying9 hsk
      go_wp2_with (first
        | (at_mapUpdate; refine wpList_mapUpdate_own _ rfl _ _ _ 51 rfl 9 34 law9 Try.underlying51 anyElem (w.heap.size + 1) k D rfl hown (by unfold maxLen; omega) _ _ _ rfl rfl hkey (.agg []) [] rfl ?_; intro w1 hown1 hgrow1))
      refine ⟨⟨k + 1, by omega, by go_num, ⟨_, hown1, fun _ => size_put_pos hown.isMap _ _⟩, hbox.of_block (hgrow1.block _ hbox.lt (fun e => by have := Option.some.inj e; omega)), hbw.grown hgrow1 hbw.size (fun j hj => by cases hj; exact Nat.le_succ _)⟩, by simp [intOf]; omega⟩
    · have hpos : 0 < Maps.size D := hD (by omega)
      have hhalf := half_map (g := n) hbox h0 hown hpos
      obtain ⟨e10, e11, g10, g11⟩ := id hbox
      have hltB := hbox.lt
      have hbel : Below w.heap.size w (wr.setCell ⟨w.heap.size, 10, none⟩ (.map (some (w.heap.size + 1)))) := hbw.setCell (Nat.le_refl _) _
      clear hD hmm
      by_cases h1 : 0 < n'
      · clear hfin
        have hmk := run_make_bands n' hl
        go_wp2
        go_loopw [15] (fun i w7 => ∃ k : Nat, k ≤ n' ∧ i = .int .i64 k ∧ Row w7 wr.heap.size (n' * 4) ∧ Below w.heap.size w w7 ∧ Half w7 w.heap.size n (.slice none 0 0)) (fun i _ => n' - (intOf i).toNat)
        case atStart =>
          refine ⟨0, Nat.zero_le _, rfl, ?_, hbel.alloc (by simp; omega) _, hhalf.below ((Below.refl _ _).alloc (Nat.le_refl _) _)⟩
          have h := Row.made (wr.setCell ⟨w.heap.size, 10, none⟩ (.map (some (w.heap.size + 1)))) #[.string ByteArray.empty, .pointer none, .string ByteArray.empty, .pointer none] (n' * 4) 69
          simpa using h
        case round =>
          clear hhalf hbel hbw hbox hown e10 e11 g10 g11
          obtain ⟨j, hj, rfl, hrow, hbw, hhalf⟩ := hrel
          by_cases hlt' : j < n'
          · obtain ⟨b, off, rfl, hb, hck0⟩ := hs'.at (k := j) (by omega)
            have hck := (hbw.cell (p := ⟨b, off + j, none⟩) hb).trans hck0
            clear hck0
            obtain ⟨v0, hv0⟩ := hrow.cell (i := j * 4) (by omega)
            obtain ⟨v1, hv1⟩ := hrow.cell (i := j * 4 + 1) (by omega)
            obtain ⟨v2, hv2⟩ := hrow.cell (i := j * 4 + 2) (by omega)
            obtain ⟨v3, hv3⟩ := hrow.cell (i := j * 4 + 3) (by omega)
            have f0 := hrow.frozen (j * 4)
            have f1 := hrow.frozen (j * 4 + 1)
            have f2 := hrow.frozen (j * 4 + 2)
            have f3 := hrow.frozen (j * 4 + 3)
            have hle := Nat.le_of_lt hltB
            go_wp2
            refine ⟨⟨j + 1, by omega, by go_num, (((hrow.setCell _ _).setCell _ _).setCell _ _).setCell _ _, (((hbw.setCell hle _).setCell hle _).setCell hle _).setCell hle _, ?_⟩, by simp [intOf]; omega⟩
            exact (((hhalf.other hrow (by omega) _ _).other (hrow.setCell _ _) (by omega) _ _).other ((hrow.setCell _ _).setCell _ _) (by omega) _ _).other (((hrow.setCell _ _).setCell _ _).setCell _ _) (by omega) _ _
          · obtain ⟨m, ⟨e10, e11, g10, g11⟩, ho⟩ := id hhalf
            go_wp2
            go_ret
            exact ⟨_, rfl, ⟨_, _, hhalf.store _⟩, hbw.setCell (Nat.le_refl _) _⟩
      · have h2 : n' ≤ 0 := by omega
        have hfin2 := hfin h2 _ _ hhalf
        clear hfin hhalf
        go_wp2
        go_ret
        exact ⟨_, rfl, hfin2, hbel⟩

/-- A plan of n grades and n' bands is made. -/
theorem plan_any (p q : ByteArray) (x : Int) (a : Option Addr) (n cap : Nat) (ss : List ByteArray) (a' : Option Addr) (n' cap' : Nat) (ss' : List ByteArray) (w : World) (hl0 : n ≤ 65536) (hs : Strs w a ss) (hn : n = ss.length) (hsz : ∀ s ∈ ss, s.size ≤ maxLen)
    (hs' : Strs w a' ss') (hn' : n' = ss'.length) (hl : n' ≤ 65536) :
    Calls Try.prog 6 #[.string p, .string q, .int .i64 x, .slice a n cap, .slice a' n' cap'] w fun e w' => PlanOut w w' n n' e := by
  by_cases h : 0 < n
  · exact plan_some p q x a n cap ss a' n' cap' ss' w h hl0 hs hn hsz hs' hn' hl
  · exact plan_none p q x a n cap a' n' cap' ss' w (by omega) hs' hn' hl

end Go.Proofs.Qxb6614248a
