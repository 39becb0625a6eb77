import Derived.Test.Qxb6614335aW4
import Derived.Maps.RangeWalk
import Derived.Deep.QuietTactic
import Derived.BigQuiet
import Derived.Deep.RegionWith
namespace Go.Proofs.Qxb6614335a
open Go.RowKit Go.Maps Go.WideMaps

/-! ### A region that draws its order, reads, and calls what lays new blocks alone -/
/-- A world in which nothing that w0 held has turned. -/
structure Later (w0 : World) where
  w : World
  below : Below w0.heap.size w0 w

theorem wp_region_later {P : Program} {id : Nat} {Q : Exit → Act → World → Prop} {a : Act} {w : World} {l : List Oper} (hm : P.follows .mixedOrders = true) (hB : Region.lexB .any l.toArray = true)
    (h : wpQuiet P l.toArray (fun w' => ∃ z : Later w, w' = z.w) (fun a' => ∀ w', (∃ z : Later w, w' = z.w) → Q .normal a' w') l a) : (Code.region id l.toArray true).wp P Q a w :=
  wp_region_quiet (C := fun w' => ∃ z : Later w, w' = z.w) hm hB ⟨⟨w.drew, (Below.refl _ _).drew⟩, rfl⟩ (by simpa using h)

theorem Later.grown {w0 : World} (z : Later w0) : w0.grownBy z.w none := ⟨z.below.os, z.below.tape, z.below.output, z.below.size, fun i hi _ => z.below.block i hi⟩

/-! ### What Alike answers, no Go in sight -/
def sameB (rn rf on og : List ByteArray) (s : ByteArray) : Bool := (fld rn rf s).toList == (fld on og s).toList
def alikeB (rn rf on og : List ByteArray) : Bool := decide (rn.length = on.length) && rn.all (sameB rn rf on og)

theorem alikeB_len {rn rf on og : List ByteArray} (h : ¬ rn.length = on.length) : alikeB rn rf on og = false := by simp [alikeB, h]
theorem alikeB_no {rn rf on og : List ByteArray} {s : ByteArray} (hs : s ∈ rn) (h : sameB rn rf on og s = false) : alikeB rn rf on og = false := by
  have h2 : rn.all (sameB rn rf on og) = false := List.all_eq_false.2 ⟨s, hs, by simp [h]⟩
  rw [alikeB, h2, Bool.and_false]
theorem alikeB_yes {rn rf on og : List ByteArray} (hl : rn.length = on.length) (h : ∀ s ∈ rn, sameB rn rf on og s = true) : alikeB rn rf on og = true := by
  rw [alikeB, List.all_eq_true.2 h]; simp [hl]

def BoolOut (b : Bool) (w w' : World) (e : Ending) : Prop := e = .returned (.bool b) ∧ Below w.heap.size w w'

/-- The eleven cells of a boxed row. -/
structure RowAt (w : World) (b : Nat) (f c : Value) : Prop where
  c0 : w.cell? ⟨b, 0, none⟩ = some (.string { data := #[] })
  c1 : w.cell? ⟨b, 1, none⟩ = some (.int .i64 0)
  c2 : w.cell? ⟨b, 2, none⟩ = some (.string { data := #[] })
  c3 : w.cell? ⟨b, 3, none⟩ = some (.string { data := #[] })
  c4 : w.cell? ⟨b, 4, none⟩ = some (.pointer none)
  c5 : w.cell? ⟨b, 5, none⟩ = some (.int .i32 0)
  c6 : w.cell? ⟨b, 6, none⟩ = some (.slice none 0 0)
  c7 : w.cell? ⟨b, 7, none⟩ = some f
  c8 : w.cell? ⟨b, 8, none⟩ = some c
  c9 : w.cell? ⟨b, 9, none⟩ = some (.map none)
  c10 : w.cell? ⟨b, 10, none⟩ = some (.string { data := #[] })

theorem RowAt.of_block {w w' : World} {b : Nat} {f c : Value} (h : RowAt w b f c) (e : w'.heap[b]? = w.heap[b]?) : RowAt w' b f c := by
  have hc : ∀ o, w'.cell? ⟨b, o, none⟩ = w.cell? ⟨b, o, none⟩ := fun o => World.cell?_of_block (w := w) (a := ⟨b, o, none⟩) e
  exact ⟨(hc 0).trans h.c0, (hc 1).trans h.c1, (hc 2).trans h.c2, (hc 3).trans h.c3, (hc 4).trans h.c4, (hc 5).trans h.c5, (hc 6).trans h.c6, (hc 7).trans h.c7, (hc 8).trans h.c8, (hc 9).trans h.c9, (hc 10).trans h.c10⟩
theorem RowAt.lt {w : World} {b : Nat} {f c : Value} (h : RowAt w b f c) : b < w.heap.size := World.block_lt_of_cell? _ _ h.c0
theorem RowAt.below {w w' : World} {b : Nat} {f c : Value} (h : RowAt w b f c) (hb : Below w.heap.size w w') : RowAt w' b f c := h.of_block (hb.block _ h.lt)
theorem rowAt_new (w : World) (f c : Value) (t : TypeId) : RowAt (w.alloc (.cells #[.string { data := #[] }, .int .i64 0, .string { data := #[] }, .string { data := #[] }, .pointer none, .int .i32 0, .slice none 0 0, f, c, .map none, .string { data := #[] }] t)) w.heap.size f c :=
  ⟨by rw [World.cell?_alloc_new]; rfl, by rw [World.cell?_alloc_new]; rfl, by rw [World.cell?_alloc_new]; rfl, by rw [World.cell?_alloc_new]; rfl, by rw [World.cell?_alloc_new]; rfl, by rw [World.cell?_alloc_new]; rfl,
    by rw [World.cell?_alloc_new]; rfl, by rw [World.cell?_alloc_new]; rfl, by rw [World.cell?_alloc_new]; rfl, by rw [World.cell?_alloc_new]; rfl, by rw [World.cell?_alloc_new]; rfl⟩

theorem next_key {D : DataW Unit} {rn : List ByteArray} (hc : ColsOf D rn) {x : ByteArray} {kl : Lit} {y : DataW Unit} (hkey : keyOf Try.prog 9 (.string x) = some kl) (hat : ∀ zd, D.atKey kl zd = y) : kl = key x ∧ x.size ≤ maxLen ∧ x ∈ rn := by
  obtain ⟨x', ex, ekl, hxs⟩ := string_of_keyOf Try.underlying9 hkey
  have e : x = x' := by simpa using ex
  rw [← e] at ekl hxs
  have ekl' : kl = key x := ekl
  refine ⟨ekl', hxs, Classical.byContradiction (fun hn => ?_)⟩
  have h1 := hc.no x hn
  rw [← ekl', has_true_of_atKey hat] at h1
  cases h1

set_option maxHeartbeats 1000000 in
set_option maxRecDepth 100000 in
theorem alike_any (fa : Option Addr) (n fc bm : Nat) (rn rf : List ByteArray) (ga : Option Addr) (m gc bo : Nat) (on og : List ByteArray) (w : World) (hr : RowIn w fa n bm rn rf) (ho : RowIn w ga m bo on og) :
    Calls Try.prog 14 #[rowV (.slice fa n fc) (.map (some bm)), rowV (.slice ga m gc) (.map (some bo))] w fun e w' => BoolOut (alikeB rn rf on og) w w' e := by
  obtain ⟨k, D, hown, hc⟩ := hr.cols
  obtain ⟨k', D', hown', hc'⟩ := ho.cols
  have hsz := hc.size
  have hsz' := hc'.size
  by_cases hlen : rn.length = on.length
  · have e1 : ((Maps.size D : Int) != (Maps.size D' : Int)) = false := by rw [hsz, hsz', hlen]; simp
    have HL : Hid (rn.length = on.length) := hlen
    clear hlen hsz hsz'
    go_enter Try.func14, Try.ntmps14
    go_wp2_with (first
      | (at_len; refine wpList_len_own _ rfl _ 32 rfl 9 3 Try.underlying32 _ bm k D rfl ((hown.alloc _).alloc _) ?_)
      | (at_len; refine wpList_len_own _ rfl _ 32 rfl 9 3 Try.underlying32 _ bo k' D' rfl ((hown'.alloc _).alloc _) ?_)
      | (at_range; refine wpList_range_own _ rfl _ 32 rfl 9 3 law9 Try.underlying32 _ bm k D rfl ((hown.alloc _).alloc _) ?_; intro w0 hrg0 hg0 hs0))
    go_frame
    have hblk : ∀ i, i < w.heap.size + 1 + 1 → w0.heap[i]? = ((w.alloc (.cells #[.string { data := #[] }, .int .i64 0, .string { data := #[] }, .string { data := #[] }, .pointer none, .int .i32 0, .slice none 0 0, .slice fa n fc, .map (some bm), .map none, .string { data := #[] }] 35)).alloc (.cells #[.string { data := #[] }, .int .i64 0, .string { data := #[] }, .string { data := #[] }, .pointer none, .int .i32 0, .slice none 0 0, .slice ga m gc, .map (some bo), .map none, .string { data := #[] }] 35)).heap[i]? := fun i hi => hg0.block i (by simpa using hi) (by simp)
    have hR1 : RowAt w0 w.heap.size (.slice fa n fc) (.map (some bm)) := (rowAt_new w _ _ 35).of_block ((hblk _ (by omega)).trans (Below.heap_alloc _ _ _ (by simp)))
    have hR2 : RowAt w0 (w.heap.size + 1) (.slice ga m gc) (.map (some bo)) := by
      have h := rowAt_new (w.alloc (.cells #[.string { data := #[] }, .int .i64 0, .string { data := #[] }, .string { data := #[] }, .pointer none, .int .i32 0, .slice none 0 0, .slice fa n fc, .map (some bm), .map none, .string { data := #[] }] 35)) (.slice ga m gc) (.map (some bo)) 35
      rw [World.size_alloc] at h
      exact h.of_block (hblk _ (by omega))
    have hW0 : Below w.heap.size w w0 := (((Below.refl _ _).alloc (Nat.le_refl _) _).alloc (by simp) _).grown hg0 (by simp; omega) (fun k hk => by cases hk)
    simp only [World.size_alloc] at hrg0 hs0 ⊢
    clear hblk hg0 hown hown' e1
    go_loopw [5] (fun _ wr => ∃ left cnt, wr.ranges Try.prog 9 (plainElem Try.prog 3) bm (w.heap.size + 1 + 1) k D left cnt ∧ Below (w.heap.size + 1 + 1) w0 wr ∧ ∀ s, s ∈ rn → left (key s) = false → sameB rn rf on og s = true) (fun _ wr => wr.rangeLeft bm (w.heap.size + 1 + 1))
    case atStart => exact ⟨_, _, hrg0, Below.refl _ _, fun s hs h => by rw [hc.yes s hs] at h; cases h⟩
    case round =>
      clear hrg0
      obtain ⟨left, cnt, hrg, hbw, hdone⟩ := hrel
      have HD : Hid (∀ s, s ∈ rn → left (key s) = false → sameB rn rf on og s = true) := hdone
      clear hdone
      go_wp2_with (first
        | (at_next; refine wpList_next_ranges _ rfl _ rfl 9 law9 (plainElem Try.prog 3) Value.string (Value.int .i64) (fun kv kl h => by obtain ⟨s, hs, _⟩ := string_of_keyOf Try.underlying9 h; exact ⟨s, hs⟩) (fun v y hv => by obtain ⟨c, hc, _⟩ := plainElem_int_inv Try.underlying3 hv; exact ⟨c, hc⟩) bm (w.heap.size + 1 + 1) k D left cnt rfl hrg ?_ ?_; intro hc0 hl0; rotate_left; intro x c kl y w2 cnt2 hkey hlk hv hat hrg2 hlt hg2 hs2 hen))
      · obtain ⟨ekl, hxs, hmem⟩ := next_key hc hkey hat
        have hbw2 : Below (w.heap.size + 1 + 1) w0 w2 := hbw.grown hg2 (by have := hrg.lt; omega) (fun j hj => by cases hj; exact Nat.le_refl _)
        have hz2 : w.heap.size + 1 + 1 < w2.heap.size := hrg2.lt
        have hWz : ∀ z : Later w2, Below w.heap.size w z.w := fun z => (hW0.trans (hbw2.mono (by omega))).trans (z.below.mono (by omega))
        have P1 : Hid (∀ z : Later w2, Calls Try.prog 16 #[rowV (.slice fa n fc) (.map (some bm)), .string x] z.w fun e w'' => e = .returned (.string (fld rn rf x)) ∧ ∃ z' : Later w2, w'' = z'.w) := fun z =>
          (field_any fa n fc bm rn rf x z.w (hr.below (hWz z)) hxs).mono fun e w'' ⟨he, hb⟩ => ⟨he, ⟨w'', z.below.trans (hb.mono z.below.size)⟩, rfl⟩
        have P2 : Hid (∀ z : Later w2, Calls Try.prog 16 #[rowV (.slice ga m gc) (.map (some bo)), .string x] z.w fun e w'' => e = .returned (.string (fld on og x)) ∧ ∃ z' : Later w2, w'' = z'.w) := fun z =>
          (field_any ga m gc bo on og x z.w (ho.below (hWz z)) hxs).mono fun e w'' ⟨he, hb⟩ => ⟨he, ⟨w'', z.below.trans (hb.mono z.below.size)⟩, rfl⟩
        have hA1 : ∀ z : Later w2, RowAt z.w w.heap.size (.slice fa n fc) (.map (some bm)) := fun z => (hR1.of_block (hbw2.block _ (by omega))).of_block (z.below.block _ (by omega))
        have hA2 : ∀ z : Later w2, RowAt z.w (w.heap.size + 1) (.slice ga m gc) (.map (some bo)) := fun z => (hR2.of_block (hbw2.block _ (by omega))).of_block (z.below.block _ (by omega))
        have k10 := fun z : Later w2 => (hA1 z).c0
        have k11 := fun z : Later w2 => (hA1 z).c1
        have k12 := fun z : Later w2 => (hA1 z).c2
        have k13 := fun z : Later w2 => (hA1 z).c3
        have k14 := fun z : Later w2 => (hA1 z).c4
        have k15 := fun z : Later w2 => (hA1 z).c5
        have k16 := fun z : Later w2 => (hA1 z).c6
        have k17 := fun z : Later w2 => (hA1 z).c7
        have k18 := fun z : Later w2 => (hA1 z).c8
        have k19 := fun z : Later w2 => (hA1 z).c9
        have k1a := fun z : Later w2 => (hA1 z).c10
        have k20 := fun z : Later w2 => (hA2 z).c0
        have k21 := fun z : Later w2 => (hA2 z).c1
        have k22 := fun z : Later w2 => (hA2 z).c2
        have k23 := fun z : Later w2 => (hA2 z).c3
        have k24 := fun z : Later w2 => (hA2 z).c4
        have k25 := fun z : Later w2 => (hA2 z).c5
        have k26 := fun z : Later w2 => (hA2 z).c6
        have k27 := fun z : Later w2 => (hA2 z).c7
        have k28 := fun z : Later w2 => (hA2 z).c8
        have k29 := fun z : Later w2 => (hA2 z).c9
        have k2a := fun z : Later w2 => (hA2 z).c10
        have hnz : Nonempty (Later w2) := ⟨⟨w2, Below.refl _ _⟩⟩
        refine wp_region_later (by kernel_rfl) (by kernel_rfl) ?_
        repeat (go_big_quiet_step (first
          | (go_at_call_of 16 (Value.map (some bm)); exact P1.out _)
          | (go_at_call_of 16 (Value.map (some bo)); exact P2.out _)))
        refine wpQuiet_nil ?_
        intro w3 hw3
        obtain ⟨z, hz⟩ := hw3
        subst hz
        have hbz : Below (w.heap.size + 1 + 1) w0 z.w := hbw2.trans (z.below.mono (by omega))
        have hrz := hrg2.kept z.grown (by simp) (by simp)
        have hWf := hWz z
        clear P1 P2 hA1 hA2 k10 k11 k12 k13 k14 k15 k16 k17 k18 k19 k1a k20 k21 k22 k23 k24 k25 k26 k27 k28 k29 k2a hWz hen hat hv
        go_wp2
        · have hq : (!((fld rn rf x).toList == (fld on og x).toList)) = true := by assumption
          have hq2 : sameB rn rf on og x = false := by unfold sameB; simpa using hq
          have hfin : alikeB rn rf on og = false := alikeB_no hmem hq2
          go_ret
          exact ⟨by rw [hfin]; rfl, hWf⟩
        · have hq : (!((fld rn rf x).toList == (fld on og x).toList)) = false := by assumption
          have hq2 : sameB rn rf on og x = true := by unfold sameB; simpa using hq
          refine ⟨⟨_, cnt2, hrz, hbz, fun s hs hl => ?_⟩, by rw [hrz.left_eq, hrg.left_eq]; exact hlt⟩
          by_cases e : s = x
          · subst e; exact hq2
          · refine HD.out s hs ?_
            have h2 : (key s).sameKey kl = false := sameKey_ne (fun h => e (key_inj (h.trans ekl)))
            simpa [h2] using hl
      · go_ret
        exact ⟨by rw [alikeB_yes HL.out (fun s hs => HD.out s hs (hl0 _))]; rfl, hW0.trans (hbw.mono (by omega))⟩
  · have e1 : ((Maps.size D : Int) != (Maps.size D' : Int)) = true := by rw [hsz, hsz']; simp; omega
    have HL : Hid (¬ rn.length = on.length) := hlen
    clear hlen hsz hsz'
    go_enter Try.func14, Try.ntmps14
    go_wp2_with (first
      | (at_len; refine wpList_len_own _ rfl _ 32 rfl 9 3 Try.underlying32 _ bm k D rfl ((hown.alloc _).alloc _) ?_)
      | (at_len; refine wpList_len_own _ rfl _ 32 rfl 9 3 Try.underlying32 _ bo k' D' rfl ((hown'.alloc _).alloc _) ?_))
    go_ret
    exact ⟨by rw [alikeB_len HL.out]; rfl, ((Below.refl _ _).alloc (Nat.le_refl _) _).alloc (by simp) _⟩

end Go.Proofs.Qxb6614335a
