import Derived.Test.Qxb6614244aW3
import Derived.Test.Qxb6614244aLocks
import Derived.Conc.MuLone
import Derived.Maps.OwnSet
import Derived.Maps.OwnOps
namespace Go.Proofs.Qxb6614244a
open Go.RowKit Go.Maps Go.WideMaps
open Go.MuLone

theorem law9 : Keyed Try.prog 9 := string_keyed Try.underlying9
theorem zero31 (w : World) : (zeroValue 31).run Try.prog w = .ok (.int .u64 0) w := by kernel_rfl
abbrev u64 (n : Int) : DataW Unit := .lit (.int .u64 n)
def key (s : ByteArray) : Lit := .string s.data.toList

structure Store (w : World) (sb bm n : Nat) (D : DataW Unit) : Prop where
  mu : w.cell? ⟨sb, 0, none⟩ = some (.int .i32 0)
  fz : w.frozen? ⟨sb, 0, none⟩ = false
  gens : w.cell? ⟨sb, 4, none⟩ = some (.map (some bm))
  ne : bm ≠ sb
  own : w.ownsMap Try.prog 9 (plainElem Try.prog 31) bm n D

set_option maxHeartbeats 400000 in
theorem new_any (w : World) : Calls Try.prog 7 #[] w fun e w' => e = .returned (.pointer (some ⟨w.heap.size + 2, 0, none⟩)) ∧ Store w' (w.heap.size + 2) (w.heap.size + 1) 0 (.map []) ∧ Below w.heap.size w w' := by
  have hmm := @run_makeMap Try.prog
  go_enter Try.func7, Try.ntmps7
  go_wp2
  go_ret
  refine ⟨rfl, ⟨?_, ?_, ?_, by omega, ?_⟩, (((Below.refl _ _).alloc (Nat.le_refl _) _).alloc (by simp) _).alloc (by simp; omega) _⟩
  · rw [World.cell?_alloc_at _ _ _ _ (by simp)]; rfl
  · rw [World.frozen?_alloc_at _ _ _ _ (by simp)]
  · rw [World.cell?_alloc_at _ _ _ _ (by simp)]; rfl
  · have h := (World.ownsMap_made (H := Unit) (w.alloc (.map #[] 0)) Try.prog 9 (plainElem Try.prog 31)).alloc (.cells #[.int .i32 0, .int .u32 0, .map (some w.heap.size), .int .i64 1024, .map (some (w.heap.size + 1))] 44)
    simpa using h

theorem meth_err (w : World) : (method 201 52 (Value.agg #[]) "Err").run Try.prog w = .ok (49, .agg #[]) w := by kernel_rfl

theorem err_any (w : World) : Calls Try.prog 49 #[.agg #[]] w fun e w' => e = .returned .nilIface ∧ Below w.heap.size w w' := by
  go_enter Try.func49, Try.ntmps49
  go_wp2
  go_ret
  exact ⟨rfl, (Below.refl _ _).alloc (Nat.le_refl _) _⟩

theorem owns_below {w w' : World} {bm n : Nat} {D : DataW Unit} (h : w.ownsMap Try.prog 9 (plainElem Try.prog 31) bm n D) (hb : Below w.heap.size w w') : w'.ownsMap Try.prog 9 (plainElem Try.prog 31) bm n D := by
  have hlt := h.lt
  unfold World.ownsMap at h ⊢
  rw [hb.block bm hlt]
  exact h

theorem Store.below {w w' : World} {sb bm n : Nat} {D : DataW Unit} (h : Store w sb bm n D) (hb : Below w.heap.size w w') : Store w' sb bm n D := by
  have hlt : sb < w.heap.size := World.block_lt_of_cell? _ _ h.mu
  exact ⟨(hb.cell (p := ⟨sb, 0, none⟩) hlt).trans h.mu, (hb.frozen (p := ⟨sb, 0, none⟩) hlt).trans h.fz, (hb.cell (p := ⟨sb, 4, none⟩) hlt).trans h.gens, h.ne, owns_below h.own hb⟩

theorem wrap_small {c : Int} (h0 : 0 ≤ c) (h1 : c ≤ 4096) : IntKind.u64.wrap (c + 1) = c + 1 := by
  have e1 : IntKind.u64.bits = 64 := rfl
  have e2 : IntKind.u64.signed = false := rfl
  simp only [IntKind.wrap, e1, e2, Bool.false_and]
  simp
  omega
theorem wf_small {c : Int} (h0 : 0 ≤ c) (h1 : c ≤ 4096) : (Lit.int .u64 (c + 1)).wf = true :=
  WalkArith.wf_u64 (by omega)
theorem at_inj {D : DataW Unit} {k : Lit} {c c' : Int} (h : D.atKey k (u64 0) = u64 c) (h' : D.atKey k (.lit (.int .u64 0)) = .lit (.int .u64 c')) : c' = c := by
  rw [h] at h'; simpa using h'.symm

set_option maxHeartbeats 800000 in
theorem advance_any (sb bm n : Nat) (D : DataW Unit) (s : ByteArray) (c : Int) (w : World) (hst : Store w sb bm n D) (hn : n < maxLen) (hs : s.size ≤ maxLen) (hD : D.atKey (key s) (u64 0) = u64 c) (h0 : 0 ≤ c) (h1 : c ≤ 4096) :
    Calls Try.prog 11 #[.pointer (some ⟨sb, 0, none⟩), .iface 52 (.agg #[]), .string s] w fun e w' => e = .returned .nilIface ∧ Store w' sb bm (n + 1) (D.put (key s) (u64 (c + 1))) ∧ Below (min sb bm) w w' := by
  have hme := meth_err
  have hlt : sb < w.heap.size := World.block_lt_of_cell? _ _ hst.mu
  go_enter_defers Try.func11, Try.ntmps11
  go_wp2_with (first
    | (go_at_call 49; refine (err_any _).mono ?_; rintro e w1 ⟨rfl, hb1⟩))
  obtain ⟨c0, f0, c4, hne, hown⟩ := hst.below hb1
  refine (lock_free Try.muLib ⟨sb, 0, none⟩ w1 c0 f0).mono ?_
  rintro e w2 ⟨rfl, rfl⟩
  have hown1 := hown.setCell (a := ⟨sb, 0, none⟩) hne (.int .i32 1)
  have hkey : keyOf Try.prog 9 (.string s) = some (key s) := keyOf_string_mk Try.underlying9 hs
  have HD : Hid (D.atKey (key s) (u64 0) = u64 c) := hD
  clear hD
  go_wp2_with (first
    | (at_lookup; refine wpList_lookup_own_int _ rfl _ _ 35 rfl 9 31 .u64 law9 Try.underlying35 Try.underlying31 (zero31 _) bm n D rfl hown1 _ _ rfl hkey ?_; intro c' hat hwc)
    | (at_mapUpdate; refine wpList_mapUpdate_in _ rfl _ _ _ 35 rfl 9 31 law9 Try.underlying35 _ bm n D rfl hown1 hn _ _ _ rfl rfl hkey _ [] (plainElem_int Try.underlying31 ?hwv) ?_; rotate_left; intro w3 hown2 hturn1))
  case hwv => rw [wrap_small (at_inj HD.out hat ▸ h0) (at_inj HD.out hat ▸ h1)]; exact wf_small (at_inj HD.out hat ▸ h0) (at_inj HD.out hat ▸ h1)
  obtain rfl : c' = c := at_inj HD.out hat
  rw [wrap_small h0 h1] at hown2
  have c0' : (w1.setCell ⟨sb, 0, none⟩ (.int .i32 1)).cell? ⟨sb, 0, none⟩ = some (.int .i32 1) := World.cell?_setCell_same w1 ⟨sb, 0, none⟩ (.int .i32 1) c0
  have c4' : (w1.setCell ⟨sb, 0, none⟩ (.int .i32 1)).cell? ⟨sb, 4, none⟩ = some (.map (some bm)) := (World.cell?_setCell_other w1 ⟨sb, 0, none⟩ ⟨sb, 4, none⟩ (.int .i32 1) (by simp)).trans c4
  have hblk := hturn1.grown.block sb (World.block_lt_of_cell? _ _ c0') (fun e => hne (Option.some.inj e).symm)
  have kc : ∀ o, w3.cell? ⟨sb, o, none⟩ = (w1.setCell ⟨sb, 0, none⟩ (.int .i32 1)).cell? ⟨sb, o, none⟩ := fun o => by simp only [World.cell?, hblk]
  refine leaves_cons (f := 14) (args := #[.pointer (some ⟨sb, 0, none⟩)]) (by simp) (by simp [go_sem]) ?_
  refine (unlock_deferred Try.muLib ⟨sb, 0, none⟩ .returning _ ((kc 0).trans c0') ((hturn1.frozen _).trans (by simp [f0]))).mono ?_
  rintro e u' w'' ⟨rfl, rfl, rfl⟩
  refine ⟨_, results_tmp rfl _ _ _, rfl, ⟨?_, ?_, ?_, hne, hown2.setCell (a := ⟨sb, 0, none⟩) hne _⟩, ?_⟩
  · exact World.cell?_setCell_same w3 ⟨sb, 0, none⟩ (.int .i32 0) ((kc 0).trans c0')
  · rw [World.frozen?_setCell, hturn1.frozen, World.frozen?_setCell]; exact f0
  · exact (World.cell?_setCell_other w3 ⟨sb, 0, none⟩ ⟨sb, 4, none⟩ (.int .i32 0) (by simp)).trans ((kc 4).trans c4')
  · have b1 : Below (min sb bm) w w1 := hb1.mono (by omega)
    have b2 : Below (min sb bm) w (w1.setCell ⟨sb, 0, none⟩ (.int .i32 1)) := b1.setCell (Nat.min_le_left _ _) _
    have hz := hb1.size
    have b3 : Below (min sb bm) w w3 := b2.grown hturn1.grown (by simp; omega) (fun k hk => by cases hk; exact Nat.min_le_right _ _)
    exact b3.setCell (Nat.min_le_left _ _) _

end Go.Proofs.Qxb6614244a
