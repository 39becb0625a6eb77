import Derived.Test.Qxb6614335aW3
namespace Go.Proofs.Qxb6614335a
open Go.RowKit Go.Maps Go.WideMaps

/-- A row of fields f under the columns c. -/
abbrev rowV (f c : Value) : Value := .agg #[.string { data := #[] }, .int .i64 0, .string { data := #[] }, .string { data := #[] }, .pointer none, .int .i32 0, .slice none 0 0, f, c, .map none, .string { data := #[] }]

set_option maxHeartbeats 400000 in
theorem row_any (fa : Option Addr) (n fc bm : Nat) (w : World) :
    Calls Try.prog 11 #[.slice fa n fc, .map (some bm)] w fun e w' => e = .returned (rowV (.slice fa n fc) (.map (some bm))) ∧ Below w.heap.size w w' := by
  go_enter Try.func11, Try.ntmps11
  go_wp2
  exact bodyPost_ret (v := rowV (.slice fa n fc) (.map (some bm))) (by simp [results, Try.results11, go_sem]) rfl ⟨rfl, (Below.refl _ _).alloc (Nat.le_refl _) _⟩

/-! ### The field of a name, no Go in sight -/
def fld : List ByteArray → List ByteArray → ByteArray → ByteArray
  | a :: xs, f :: fs, s => if (a.toList == s.toList) = true then f else fld xs fs s
  | _, _, _ => { data := #[] }

theorem fld_not {s : ByteArray} : ∀ {names fs : List ByteArray}, s ∉ names → fld names fs s = { data := #[] }
  | [], _, _ => by simp [fld]
  | _ :: _, [], _ => by simp [fld]
  | a :: xs, f :: fs, h => by
    have e : ¬ (a.toList == s.toList) = true := fun e => h (by rw [eq_of_toList e]; simp)
    rw [fld, if_neg e]
    exact fld_not (fun hm => h (by simp [hm]))
theorem fld_at : ∀ {names fs : List ByteArray} {i : Nat}, names.Nodup → names.length = fs.length → i < names.length → fld names fs (names.getD i ByteArray.empty) = fs.getD i ByteArray.empty
  | [], _, _, _, _, h => by simp at h
  | _ :: _, [], _, _, h, _ => by simp at h
  | a :: xs, f :: fs, 0, _, _, _ => by simp [fld]
  | a :: xs, f :: fs, i + 1, hn, hl, hi => by
    have hi' : i < xs.length := by simpa using hi
    obtain ⟨h1, h2⟩ := List.nodup_cons.1 hn
    have hne : ¬ (a.toList == (xs.getD i ByteArray.empty).toList) = true := fun e => h1 (by
      rw [eq_of_toList e, List.getD, List.getElem?_eq_getElem hi']; exact List.getElem_mem hi')
    show fld (a :: xs) (f :: fs) (xs.getD i ByteArray.empty) = fs.getD i ByteArray.empty
    rw [fld, if_neg hne]
    exact fld_at h2 (by simpa using hl) hi'
theorem mem_pos {names : List ByteArray} {s : ByteArray} (h : s ∈ names) : ∃ i, i < names.length ∧ names.getD i ByteArray.empty = s := by
  obtain ⟨i, hi, rfl⟩ := List.getElem_of_mem h
  exact ⟨i, hi, by rw [List.getD, List.getElem?_eq_getElem hi]; rfl⟩

/-- A row of a table, in memory: its fields, and its columns' map. -/
structure RowIn (w : World) (fa : Option Addr) (n bm : Nat) (names fs : List ByteArray) : Prop where
  strs : Strs w fa fs
  len : n = fs.length
  lens : names.length = fs.length
  nodup : names.Nodup
  cols : ∃ k D, w.ownsMap Try.prog 9 (plainElem Try.prog 3) bm k D ∧ ColsOf D names

theorem owns_block {w w' : World} {bm n : Nat} {D : DataW Unit} (h : w.ownsMap Try.prog 9 (plainElem Try.prog 3) bm n D) (e : w'.heap[bm]? = w.heap[bm]?) : w'.ownsMap Try.prog 9 (plainElem Try.prog 3) bm n D := by
  unfold World.ownsMap at h ⊢
  rw [e]
  exact h

theorem RowIn.below {w w' : World} {fa : Option Addr} {n bm : Nat} {names fs : List ByteArray} (h : RowIn w fa n bm names fs) (hb : Below w.heap.size w w') : RowIn w' fa n bm names fs := by
  obtain ⟨k, D, ho, hc⟩ := h.cols
  exact ⟨h.strs.below hb, h.len, h.lens, h.nodup, k, D, owns_block ho (hb.block _ ho.lt), hc⟩

theorem at_inj {D : DataW Unit} {k : Lit} {c c' : Int} (h : D.atKey k (i64 0) = i64 c) (h' : D.atKey k (.lit (.int .i64 0)) = .lit (.int .i64 c')) : c' = c := by
  rw [h] at h'; simpa using h'.symm

def StrOut (s : ByteArray) (w w' : World) (e : Ending) : Prop := e = .returned (.string s) ∧ Below w.heap.size w w'

set_option maxHeartbeats 400000 in
theorem field_any (fa : Option Addr) (n fc bm : Nat) (names fs : List ByteArray) (s : ByteArray) (w : World) (hr : RowIn w fa n bm names fs) (hs : s.size ≤ maxLen) :
    Calls Try.prog 16 #[rowV (.slice fa n fc) (.map (some bm)), .string s] w fun e w' => StrOut (fld names fs s) w w' e := by
  obtain ⟨hst, hlen, hlens, hnd, k, D, hown, hc⟩ := hr
  have hkey : keyOf Try.prog 9 (.string s) = some (key s) := keyOf_string_mk Try.underlying9 hs
  by_cases hm : s ∈ names
  · obtain ⟨i, hi, hsi⟩ := mem_pos hm
    have hfld := fld_at hnd hlens hi
    rw [hsi] at hfld
    have hpos := hc.pos i hi
    rw [hsi] at hpos
    have hhas := hc.yes s hm
    obtain ⟨b, off, rfl, hb, hck⟩ := hst.at (k := i) (by omega)
    have hin : i < n := by omega
    have HP : Hid (D.atKey (key s) (i64 0) = i64 i) := hpos
    have HF : Hid (fld names fs s = fs.getD i ByteArray.empty) := hfld
    clear hpos hfld hlen hlens hnd hst hc hm hsi hi
    go_enter Try.func16, Try.ntmps16
    go_wp2_with (first
      | (at_lookup; refine wpList_lookup_own_ok_int _ rfl _ _ 32 rfl 9 3 .i64 law9 Try.underlying32 Try.underlying3 (zero3 _) bm k D rfl (hown.alloc _) _ _ rfl hkey ?_; intro c hat hwc; obtain rfl : c = i := at_inj HP.out hat; clear hat hwc))
    go_ret
    exact ⟨by rw [HF.out]; rfl, (Below.refl _ _).alloc (Nat.le_refl _) _⟩
  · have hhas := hc.no s hm
    have hfld := fld_not (fs := fs) hm
    have HF : Hid (fld names fs s = { data := #[] }) := hfld
    clear hfld hlen hlens hnd hst hc hm
    go_enter Try.func16, Try.ntmps16
    go_wp2_with (first
      | (at_lookup; refine wpList_lookup_own_ok_int _ rfl _ _ 32 rfl 9 3 .i64 law9 Try.underlying32 Try.underlying3 (zero3 _) bm k D rfl (hown.alloc _) _ _ rfl hkey ?_; intro c hat hwc; clear hat hwc))
    go_ret
    exact ⟨by rw [HF.out]; rfl, (Below.refl _ _).alloc (Nat.le_refl _) _⟩

end Go.Proofs.Qxb6614335a
