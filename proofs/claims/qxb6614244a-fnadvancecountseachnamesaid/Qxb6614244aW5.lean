import Derived.Test.Qxb6614244aW4
import Derived.Deep.QuietTactic
import Derived.BigQuiet
namespace Go.Proofs.Qxb6614244a
open Go.RowKit Go.Maps Go.WideMaps

theorem back_any (w : World) : Calls Try.prog 12 #[] w fun e w' => e = .returned (.iface 52 (.agg #[])) ∧ w' = w := by
  go_enter Try.func12, Try.ntmps12
  go_wp2
  go_ret
  exact ⟨rfl, rfl⟩

set_option maxHeartbeats 400000 in
theorem zadv_any (sb bm n : Nat) (D : DataW Unit) (s : ByteArray) (c : Int) (w : World) (hst : Store w sb bm n D) (hn : n < maxLen) (hs : s.size ≤ maxLen) (hD : D.atKey (key s) (u64 0) = u64 c) (h0 : 0 ≤ c) (h1 : c ≤ 4096) :
    Calls Try.prog 8 #[.pointer (some ⟨sb, 0, none⟩), .string s] w fun e w' => e = .returned .nilIface ∧ Store w' sb bm (n + 1) (D.put (key s) (u64 (c + 1))) ∧ Below (min sb bm) w w' := by
  have HD : Hid (D.atKey (key s) (u64 0) = u64 c) := hD
  clear hD
  go_enter Try.func8, Try.ntmps8
  go_wp2_with (first
    | (go_at_call 12; refine (back_any _).mono ?_; rintro e w1 ⟨rfl, rfl⟩)
    | (go_at_call 11; refine (advance_any sb bm n D s c _ hst hn hs HD.out h0 h1).mono ?_; rintro e w1 ⟨rfl, hst1, hb1⟩))
  go_ret
  exact ⟨rfl, hst1, hb1⟩

set_option maxHeartbeats 400000 in
theorem gen_any (sb bm n : Nat) (D : DataW Unit) (s : ByteArray) (c : Int) (w : World) (hst : Store w sb bm n D) (hs : s.size ≤ maxLen) (hD : D.atKey (key s) (u64 0) = u64 c) :
    Calls Try.prog 9 #[.pointer (some ⟨sb, 0, none⟩), .string s] w fun e w' => e = .returned (.int .u64 c) ∧ w' = w := by
  have HD : Hid (D.atKey (key s) (u64 0) = u64 c) := hD
  clear hD
  obtain ⟨c0, f0, c4, hne, hown⟩ := hst
  have hkey : keyOf Try.prog 9 (.string s) = some (key s) := keyOf_string_mk Try.underlying9 hs
  go_enter Try.func9, Try.ntmps9
  go_wp2_with (first
    | (at_lookup; refine wpList_lookup_own_int _ rfl _ _ 35 rfl 9 31 .u64 law9 Try.underlying35 Try.underlying31 (zero31 _) bm n D rfl hown _ _ rfl hkey ?_; intro c' hat hwc))
  go_ret
  exact ⟨by rw [← at_inj HD.out hat]; rfl, rfl⟩

/-- The map counts the names of l. -/
def Counts (D : DataW Unit) (l : List ByteArray) : Prop := ∀ s, D.atKey (key s) (u64 0) = u64 (cnt s l)

theorem counts_nil : Counts (.map []) [] := fun _ => rfl

theorem key_ne {s t : ByteArray} (h : (s.toList == t.toList) = false) : key t ≠ key s := by
  intro e
  unfold key at e
  have e' := Lit.string.inj e
  rw [ByteArray.toList_eq, ByteArray.toList_eq, e'] at h
  simp at h

theorem counts_put {D : DataW Unit} {l : List ByteArray} (h : Counts D l) (hm : IsMap D) (s : ByteArray) : Counts (D.put (key s) (u64 ((cnt s l : Int) + 1))) (l ++ [s]) := by
  intro t
  rw [cnt_snoc]
  by_cases e : (s.toList == t.toList) = true
  · have e' : s = t := by
      have := eq_of_beq e
      rw [ByteArray.toList_eq, ByteArray.toList_eq] at this
      exact WideShapes.bytes_inj this
    subst e'
    rw [atKey_put_same hm (by trivial)]
    simp
  · have e2 : (s.toList == t.toList) = false := by simpa using e
    rw [atKey_put_other (key_ne e2), h t, e2]
    simp

end Go.Proofs.Qxb6614244a
