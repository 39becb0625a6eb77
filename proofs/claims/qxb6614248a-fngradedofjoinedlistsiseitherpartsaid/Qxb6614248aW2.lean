import Derived.Test.Qxb6614248aW1
import Derived.Deep.OwnRows
import Derived.Maps.OwnSet
import Derived.Maps.OwnOps
namespace Go.Proofs.Qxb6614248a
open Go.RowKit Go.Maps Go.WideMaps

theorem run_makeMap_hint {P : Program} {t k e : TypeId} (ht : P.underlying t = some (.map k e)) (q : IntKind) (n : Int) (w : World) :
    (Instr.makeMap t (some (.int q n))).run P w = .ok (.map (some w.heap.size)) (w.alloc (.map #[] 0)) := by
  simp [Instr.makeMap, run_underlying ht, asInt]
  rfl

theorem Try.info69 : (Try.prog.info? 69).map (fun i => (i.zero, i.size, i.bytes)) = some (some (.agg #[.string ByteArray.empty, .pointer none, .string ByteArray.empty, .pointer none]), 4, 48) := by kernel_rfl

theorem run_make_bands (n : Nat) (hn : n ≤ 65536) (w : World) :
    (Instr.makeSlice 52 (.int .i64 (n : Int)) (.int .i64 (n : Int))).run Try.prog w = .ok (.slice (some ⟨w.heap.size, 0, none⟩) n n) (w.alloc (.cells (madeCells #[.string ByteArray.empty, .pointer none, .string ByteArray.empty, .pointer none] (n * 4)) 69)) := by
  obtain ⟨i, hi, hzz⟩ := Option.map_eq_some_iff.1 Try.info69
  simp only [Prod.mk.injEq] at hzz
  obtain ⟨hz, hs, hb⟩ := hzz
  have hr := run_make (P := Try.prog) w 52 69 i _ Try.underlying52 hi hz .i64 .i64 n n (by omega) (Int.le_refl _) (by rw [hb]; omega) (by omega)
  simpa [hs, Value.cells] using hr

/-- Block b is a row of n cells, none of them a constant. -/
def Row (w : World) (b n : Nat) : Prop := ∃ (c : Array Value) (t : TypeId), w.heap[b]? = some (.cells c t (0, 0)) ∧ c.size = n

theorem Row.cell {w : World} {b n : Nat} (h : Row w b n) {i : Nat} (hi : i < n) : ∃ v, w.cell? ⟨b, i, none⟩ = some v := by
  obtain ⟨c, t, hb, hn⟩ := h
  exact ⟨c[i], by simp [World.cell?, hb, hn, hi]⟩
theorem Row.frozen {w : World} {b n : Nat} (h : Row w b n) (i : Nat) : w.frozen? ⟨b, i, none⟩ = false := by
  obtain ⟨c, t, hb, _⟩ := h
  simp [World.frozen?, hb]
theorem Row.setCell {w : World} {b n : Nat} (h : Row w b n) (o : Nat) (v : Value) : Row (w.setCell ⟨b, o, none⟩ v) b n := by
  obtain ⟨c, t, hb, hn⟩ := h
  refine ⟨c.setIfInBounds o v, t, ?_, by simpa using hn⟩
  simp [World.setCell, Array.getElem?_modify, hb]
theorem Row.made (w : World) (z : Array Value) (n : Nat) (t : TypeId) : Row (w.alloc (.cells (madeCells z n) t)) w.heap.size n :=
  ⟨_, t, Go.Deep.blk_alloc_new _ _, size_madeCells _ _⟩


/-- An element of the map, of which nothing is asked. -/
def anyElem (_ : Value) : Option (DataW Unit × List MemPlace) := some (.agg [], [])

theorem size_put_pos {D : DataW Unit} (h : IsMap D) (k : Lit) (d : DataW Unit) : 0 < Maps.size (D.put k d) := by
  obtain ⟨es, rfl⟩ := h
  show 0 < (DataW.insert _ _).length
  rw [length_insert]
  omega

/-- The two fields that tell whether a plan is graded, in the plan's block. -/
structure Box (w : World) (b : Nat) (m s : Value) : Prop where
  c10 : w.cell? ⟨b, 10, none⟩ = some m
  c11 : w.cell? ⟨b, 11, none⟩ = some s
  f10 : w.frozen? ⟨b, 10, none⟩ = false
  f11 : w.frozen? ⟨b, 11, none⟩ = false

theorem Box.of_block {w w' : World} {b : Nat} {m s : Value} (h : Box w b m s) (e : w'.heap[b]? = w.heap[b]?) : Box w' b m s :=
  ⟨(World.cell?_of_block (w := w) (a := ⟨b, 10, none⟩) e).trans h.c10, (World.cell?_of_block (w := w) (a := ⟨b, 11, none⟩) e).trans h.c11, (World.frozen?_of_block (w := w) (a := ⟨b, 10, none⟩) e).trans h.f10, (World.frozen?_of_block (w := w) (a := ⟨b, 11, none⟩) e).trans h.f11⟩
theorem Box.lt {w : World} {b : Nat} {m s : Value} (h : Box w b m s) : b < w.heap.size := World.block_lt_of_cell? _ _ h.c10

/-- The grades' map: nil where there is no grade, else one that holds something. -/
def MulOk (w : World) (b : Nat) (m : Value) (g : Nat) : Prop :=
  (g = 0 ∧ m = .map none) ∨ (0 < g ∧ ∃ bm n D, m = .map (some bm) ∧ bm ≠ b ∧ w.ownsMap Try.prog 9 anyElem bm n D ∧ 0 < Maps.size D)

theorem owns_block {w w' : World} {bm n : Nat} {D : DataW Unit} (h : w.ownsMap Try.prog 9 anyElem bm n D) (e : w'.heap[bm]? = w.heap[bm]?) : w'.ownsMap Try.prog 9 anyElem bm n D := by
  unfold World.ownsMap at h ⊢
  rw [e]
  exact h

def Half (w : World) (b g : Nat) (s : Value) : Prop := ∃ m, Box w b m s ∧ MulOk w b m g

theorem Half.below {w w' : World} {b g : Nat} {s : Value} (h : Half w b g s) (hb : Below w.heap.size w w') : Half w' b g s := by
  obtain ⟨m, hx, ho⟩ := h
  refine ⟨m, hx.of_block (hb.block _ hx.lt), ?_⟩
  rcases ho with ho | ⟨h0, bm, n, D, h1, h2, h3, h4⟩
  · exact .inl ho
  · exact .inr ⟨h0, bm, n, D, h1, h2, owns_block h3 (hb.block _ h3.lt), h4⟩

theorem Half.store {w : World} {b g : Nat} {s : Value} (h : Half w b g s) (v : Value) : Half (w.setCell ⟨b, 11, none⟩ v) b g v := by
  obtain ⟨m, hx, ho⟩ := h
  refine ⟨m, ⟨(World.cell?_setCell_other w ⟨b, 11, none⟩ ⟨b, 10, none⟩ v (by simp)).trans hx.c10, World.cell?_setCell_same w ⟨b, 11, none⟩ v hx.c11, by rw [World.frozen?_setCell]; exact hx.f10, by rw [World.frozen?_setCell]; exact hx.f11⟩, ?_⟩
  rcases ho with ho | ⟨h0, bm, n, D, h1, h2, h3, h4⟩
  · exact .inl ho
  · exact .inr ⟨h0, bm, n, D, h1, h2, h3.setCell (a := ⟨b, 11, none⟩) h2 _, h4⟩

/-- A store into a row that is neither the plan's block nor the map's. -/
theorem Half.other {w : World} {b g n : Nat} {s : Value} (h : Half w b g s) {r : Nat} (hr : Row w r n) (hne : b ≠ r) (o : Nat) (v : Value) : Half (w.setCell ⟨r, o, none⟩ v) b g s := by
  obtain ⟨m, hx, ho⟩ := h
  refine ⟨m, hx.of_block (Below.heap_setCell _ _ _ _ hne), ?_⟩
  rcases ho with ho | ⟨h0, bm, n, D, h1, h2, h3, h4⟩
  · exact .inl ho
  · refine .inr ⟨h0, bm, n, D, h1, h2, h3.setCell (a := ⟨r, o, none⟩) (fun e => ?_) _, h4⟩
    obtain ⟨c, t, hb, _⟩ := hr
    obtain ⟨es, clock, he, _⟩ := h3
    rw [e] at he
    rw [hb] at he
    cases he

theorem half_map {w : World} {b g n : Nat} {D : DataW Unit} {s : Value} (hx : Box w b (.map none) s) (hg : 0 < g) (ho : w.ownsMap Try.prog 9 anyElem (b + 1) n D) (hD : 0 < Maps.size D) : Half (w.setCell ⟨b, 10, none⟩ (.map (some (b + 1)))) b g s :=
  ⟨_, ⟨World.cell?_setCell_same w ⟨b, 10, none⟩ _ hx.c10, (World.cell?_setCell_other w ⟨b, 10, none⟩ ⟨b, 11, none⟩ _ (by simp)).trans hx.c11, by rw [World.frozen?_setCell]; exact hx.f10, by rw [World.frozen?_setCell]; exact hx.f11⟩,
    .inr ⟨hg, b + 1, n, D, rfl, by omega, ho.setCell (a := ⟨b, 10, none⟩) (by show b + 1 ≠ b; omega) _, hD⟩⟩

theorem box_new (w : World) (v0 v1 v2 v3 v4 v5 v6 v7 v8 v9 v10 v11 v12 v13 v14 v15 v16 v17 v18 v19 v20 v21 v22 v23 v24 v25 v26 : Value) (t : TypeId) :
    Box (w.alloc (.cells #[v0, v1, v2, v3, v4, v5, v6, v7, v8, v9, v10, v11, v12, v13, v14, v15, v16, v17, v18, v19, v20, v21, v22, v23, v24, v25, v26] t)) w.heap.size v10 v11 :=
  ⟨by rw [World.cell?_alloc_new]; rfl, by rw [World.cell?_alloc_new]; rfl, World.frozen?_alloc_new _ _ _ _, World.frozen?_alloc_new _ _ _ _⟩

/-- A plan of n grades and n' bands has been made; what was there stands. -/
def PlanOut (w w' : World) (n n' : Nat) (e : Ending) : Prop :=
  ∃ b, e = .returned (.pointer (some ⟨b, 0, none⟩)) ∧ (∃ a c, Half w' b n (.slice a n' c)) ∧ Below w.heap.size w w'

end Go.Proofs.Qxb6614248a
