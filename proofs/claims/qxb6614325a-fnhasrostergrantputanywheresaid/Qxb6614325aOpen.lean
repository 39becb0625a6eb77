import Derived.Test.Qxb6614325aW7
import Derived.ProofKit
import Derived.Deep.Slices
import Derived.ChangeOld
namespace Go.Proofs.Qxb6614325a
open Go.RowKit Go.ChangeShapes Go.WideShapes Go.Deep

theorem Try.cells31 : Try.prog.cellsOf 31 = 5 := by kernel_rfl
theorem Try.cells23 : Try.prog.cellsOf 23 = 1 := by kernel_rfl
theorem Try.cells9 : Try.prog.cellsOf 9 = 1 := by kernel_rfl
theorem Try.cells2 : Try.prog.cellsOf 2 = 1 := by kernel_rfl
theorem Try.cells3 : Try.prog.cellsOf 3 = 1 := by kernel_rfl

theorem len5 {cs : List Value} (h : cs.length = 5) : ∃ c0 c1 c2 c3 c4, cs = [c0, c1, c2, c3, c4] := by
  match cs, h with
  | [c0, c1, c2, c3, c4], _ => exact ⟨c0, c1, c2, c3, c4, rfl⟩

/-- One grantee's five cells. -/
theorem tee_cells {H : Type} {enc : TypeId × Value → H} {W : World} {base : Nat} {spare : Nat → Bool} {held : Bool} {fuel : Nat} {cs : List Value} {x : DataW H × List MemPlace}
    (h : DataW.trod enc Try.prog W base spare held fuel 31 cs = some x) : ∃ (s : ByteArray) (x y z : Int) (t : ByteArray), cs = [.string s, .int .i64 x, .int .i64 y, .int .i64 z, .string t] := by
  obtain ⟨xs, n, _, _, hlen, hxs, hf⟩ := DataW.trod_struct Try.underlying31 h
  rw [Try.cells31] at hlen
  obtain ⟨c0, c1, c2, c3, c4, rfl⟩ := len5 hlen
  have hx : xs.length = 5 := hxs
  have f0 : DataW.trod enc Try.prog W base spare held n 9 ((([c0, c1, c2, c3, c4] : List Value).drop 0).take (Try.prog.cellsOf 9)) = xs[0]? := hf 0 _ rfl
  have f1 : DataW.trod enc Try.prog W base spare held n 2 ((([c0, c1, c2, c3, c4] : List Value).drop 1).take (Try.prog.cellsOf 2)) = xs[1]? := hf 1 _ rfl
  have f2 : DataW.trod enc Try.prog W base spare held n 2 ((([c0, c1, c2, c3, c4] : List Value).drop 2).take (Try.prog.cellsOf 2)) = xs[2]? := hf 2 _ rfl
  have f3 : DataW.trod enc Try.prog W base spare held n 3 ((([c0, c1, c2, c3, c4] : List Value).drop 3).take (Try.prog.cellsOf 3)) = xs[3]? := hf 3 _ rfl
  have f4 : DataW.trod enc Try.prog W base spare held n 9 ((([c0, c1, c2, c3, c4] : List Value).drop 4).take (Try.prog.cellsOf 9)) = xs[4]? := hf 4 _ rfl
  rw [Try.cells9, List.getElem?_eq_getElem (by omega)] at f0 f4
  rw [Try.cells2, List.getElem?_eq_getElem (by omega)] at f1 f2
  rw [Try.cells3, List.getElem?_eq_getElem (by omega)] at f3
  obtain ⟨s, e0, _, _⟩ := DataW.trod_string Try.underlying9 f0
  obtain ⟨x, e1, _, _⟩ := DataW.trod_int Try.underlying2 f1
  obtain ⟨y, e2, _, _⟩ := DataW.trod_int Try.underlying2 f2
  obtain ⟨z, e3, _, _⟩ := DataW.trod_int Try.underlying3 f3
  obtain ⟨t, e4, _, _⟩ := DataW.trod_string Try.underlying9 f4
  simp at e0 e1 e2 e3 e4
  exact ⟨s, x, y, z, t, by rw [e0, e1, e2, e3, e4]⟩

/-- A slice of grantees that can be read, as the walks want it. -/
theorem tees_in {H : Type} {enc : TypeId × Value → H} {W : World} {spare : Nat → Bool} {held : Bool} {fuel : Nat} {a : Option Addr} {l c : Nat} {x : DataW H × List MemPlace}
    (h : DataW.trod enc Try.prog W 0 spare held fuel 23 [.slice a l c] = some x) : Tees W a l := by
  rcases open_slice Try.underlying23 h with ⟨hcs, _⟩ | ⟨ad, len, cap, m, n, D, Pl, hcs, _, hl, _, hm, _, hel⟩
  · simp at hcs; exact .inl hcs.2.1
  · simp at hcs
    obtain ⟨rfl, rfl, rfl⟩ := hcs
    have hlm : l ≤ m := by rw [hm]; split <;> omega
    by_cases h0 : l = 0
    · exact .inl h0
    rw [Try.cells31] at hel
    obtain ⟨b, off, spot⟩ := ad
    have hone : ∀ i, i < l → ∃ (s : ByteArray) (x y z : Int) (t : ByteArray), ∀ j, j < 5 → W.cell? (((⟨b, off, spot⟩ : Addr).add (i * 5)).add j) = [Value.string s, .int .i64 x, .int .i64 y, .int .i64 z, .string t][j]? := fun i hi => by
      obtain ⟨cs', h1, h2⟩ := hel i (by omega)
      obtain ⟨s, x, y, z, t, rfl⟩ := tee_cells h2
      exact ⟨s, x, y, z, t, (World.cells?_some h1).2.2⟩
    have hspot : spot = none := by
      obtain ⟨s, x, y, z, t, hj⟩ := hone 0 (by omega)
      have h1 : W.cell? (((⟨b, off, spot⟩ : Addr).add (0 * 5)).add 0) = some (.string s) := hj 0 (by omega)
      simpa [Addr.add] using World.cell?_spot h1
    subst hspot
    refine .inr ⟨b, off, rfl, ?_, fun j hj => ?_⟩
    · obtain ⟨s, x, y, z, t, hj⟩ := hone 0 (by omega)
      have h1 : W.cell? (((⟨b, off, none⟩ : Addr).add (0 * 5)).add 0) = some (.string s) := hj 0 (by omega)
      rw [add_add, add_plain] at h1
      exact World.block_lt_of_cell? _ _ h1
    · obtain ⟨s, x, y, z, t, hq⟩ := hone j hj
      have e : ∀ q, q < 5 → W.cell? ⟨b, off + j * 5 + q, none⟩ = [Value.string s, .int .i64 x, .int .i64 y, .int .i64 z, .string t][q]? := fun q h => by
        have h1 := hq q h
        rw [add_add, add_plain, ← Nat.add_assoc] at h1
        exact h1
      exact ⟨s, x, y, z, t, e 0 (by omega), e 1 (by omega), e 2 (by omega), e 3 (by omega), e 4 (by omega)⟩

theorem choose_roll {n : Nat} {p : Nat → Roll → Prop} (h : ∀ i, i < n → ∃ x, p i x) : ∃ f : Nat → Roll, ∀ i, i < n → p i (f i) := by
  obtain ⟨f, hf⟩ := choose_lt (α := Option Addr × Nat × Nat) (p := fun i r => p i ⟨r.1, r.2.1, r.2.2⟩) (fun i hi => by
    obtain ⟨x, hx⟩ := h i hi
    exact ⟨(x.a, x.l, x.c), hx⟩)
  exact ⟨fun i => ⟨(f i).1, (f i).2.1, (f i).2.2⟩, hf⟩

/-- A slice of such slices, as the walks want it. -/
theorem rolls_in {H : Type} {enc : TypeId × Value → H} {W : World} {spare : Nat → Bool} {held : Bool} {fuel : Nat} {a : Option Addr} {n c : Nat} {x : DataW H × List MemPlace}
    (h : DataW.trod enc Try.prog W 0 spare held fuel 22 [.slice a n c] = some x) : ∃ rs : List Roll, Rolls W a rs ∧ n = rs.length := by
  rcases open_slice1 Try.underlying22 Try.cells23 h with ⟨hcs, _⟩ | ⟨ad, len, cap, m, k, V, D, Pl, hcs, _, hl, _, hm, _, hel⟩
  · simp at hcs; exact ⟨[], .inl rfl, hcs.2.1⟩
  · simp at hcs
    obtain ⟨rfl, rfl, rfl⟩ := hcs
    have hlm : n ≤ m := by rw [hm]; split <;> omega
    have hrow : ∀ i, i < n → ∃ r : Roll, W.cell? (ad.add i) = some (.slice r.a r.l r.c) ∧ Tees W r.a r.l := fun i hi => by
      obtain ⟨h1, h2⟩ := hel i (by omega)
      rcases open_slice Try.underlying23 h2 with ⟨hcs, _⟩ | ⟨ad', len', cap', m', n', D', Pl', hcs, _⟩
      · simp at hcs; rw [hcs] at h1 h2; exact ⟨⟨none, 0, 0⟩, h1, tees_in h2⟩
      · simp at hcs; rw [hcs] at h1 h2; exact ⟨⟨some ad', len', cap'⟩, h1, tees_in h2⟩
    obtain ⟨F, hF⟩ := choose_roll hrow
    refine ⟨(List.range n).map F, ?_, by simp⟩
    by_cases h0 : n = 0
    · subst h0; exact .inl (by simp)
    obtain ⟨b, off, spot⟩ := ad
    have hspot : spot = none := by simpa [Addr.add] using World.cell?_spot (hF 0 (by omega)).1
    subst hspot
    refine .inr ⟨b, off, rfl, World.block_lt_of_cell? _ _ (by simpa [Addr.add] using (hF 0 (by omega)).1), fun i hi => ?_⟩
    have hi' : i < n := by simpa using hi
    have e : ((List.range n).map F).getD i nilRoll = F i := by simp [List.getD, hi']
    rw [e, ← add_plain]
    exact hF i hi'

end Go.Proofs.Qxb6614325a
