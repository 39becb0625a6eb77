import Derived.Test.Qxb6614244aW1
namespace Go.Proofs.Qxb6614244a
open Go.RowKit

set_option maxHeartbeats 400000 in
set_option maxRecDepth 100000 in
/-- addStrings: it answers a number and only reads. -/
theorem add_any (a : Option Addr) (n cap : Nat) (ss : List ByteArray) (t : Int) (w : World) (hs : Strs w a ss) (hn : n = ss.length) (hl : n ≤ 4096) :
    Calls Try.prog 5 #[.slice a n cap, .int .i64 t] w fun e w' => AnyInt e ∧ w' = w := by
  by_cases h1 : (1048576 : Int) < t
  · go_enter Try.func5, Try.ntmps5
    go_wp2
    go_ret; exact ⟨anyInt rfl, rfl⟩
  have h2 : decide ((1048576 : Int) < t) = false := decide_eq_false h1
  rcases hs with rfl | ⟨b, off, rfl, hb, hc⟩
  · subst hn
    go_enter Try.func5, Try.ntmps5
    go_wp2
    refine wp_loop_rounds 1 ?_
    rw [rounds_succ]
    go_wp2
    all_goals (go_ret; exact ⟨anyInt rfl, rfl⟩)
  · have hn1 : n ≤ ss.length := Nat.le_of_eq hn
    clear hn
    go_enter Try.func5, Try.ntmps5
    go_wp2
    go_loop [1, 5] (fun t i => ∃ (k : Nat) (x : Int), k ≤ n ∧ i = .int .i64 k ∧ t = .int .i64 x) (fun _ i => n - (intOf i).toNat)
    case atStart => exact ⟨0, _, Nat.zero_le _, rfl, rfl⟩
    case round =>
      obtain ⟨k, x, hk, rfl, rfl⟩ := hrel
      by_cases hlt : k < n
      · have hck := hc k (by omega)
        go_wp2
        · go_ret; exact ⟨anyInt rfl, rfl⟩
        · go_ret; exact ⟨anyInt rfl, rfl⟩
        · exact ⟨⟨k + 1, _, by omega, by go_num, rfl⟩, by simp [intOf]; omega⟩
      · go_wp2
        all_goals (go_ret; exact ⟨anyInt rfl, rfl⟩)

/-- How often p stands in l. -/
def cnt (p : ByteArray) (l : List ByteArray) : Nat := (l.filter (fun s => s.toList == p.toList)).length

theorem cnt_le (p : ByteArray) (l : List ByteArray) : cnt p l ≤ l.length := List.length_filter_le _ _
theorem take_snoc (ss : List ByteArray) (k : Nat) (h : k < ss.length) : ss.take (k + 1) = ss.take k ++ [ss.getD k ByteArray.empty] := by
  rw [List.take_succ_eq_append_getElem h, List.getD, List.getElem?_eq_getElem h]; rfl
theorem cnt_snoc (p : ByteArray) (l : List ByteArray) (s : ByteArray) : cnt p (l ++ [s]) = cnt p l + if s.toList == p.toList then 1 else 0 := by
  unfold cnt
  rw [List.filter_append, List.length_append]
  by_cases h : (s.toList == p.toList) = true <;> simp [h]

set_option maxHeartbeats 400000 in
set_option maxRecDepth 100000 in
/-- countOf: how often p stands in the slice; it only reads. -/
theorem count_any (a : Option Addr) (n cap : Nat) (ss : List ByteArray) (p : ByteArray) (w : World) (hs : Strs w a ss) (hn : n = ss.length) (hl : n ≤ 4096) :
    Calls Try.prog 10 #[.slice a n cap, .string p] w fun e w' => e = .returned (.int .i64 (cnt p ss)) ∧ w' = w := by
  rcases hs with rfl | ⟨b, off, rfl, hb, hc⟩
  · subst hn
    go_enter Try.func10, Try.ntmps10
    go_wp2
    refine wp_loop_rounds 1 ?_
    rw [rounds_succ]
    go_wp2
    go_ret; exact ⟨rfl, rfl⟩
  · have hn1 : n ≤ ss.length := Nat.le_of_eq hn
    have hn2 : ss.length ≤ n := Nat.le_of_eq hn.symm
    clear hn
    go_enter Try.func10, Try.ntmps10
    go_wp2
    go_loop [5, 6] (fun t i => ∃ (k : Nat), k ≤ n ∧ i = .int .i64 k ∧ t = .int .i64 (cnt p (ss.take k))) (fun _ i => n - (intOf i).toNat)
    case atStart => exact ⟨0, Nat.zero_le _, rfl, rfl⟩
    case round =>
      obtain ⟨k, hk, rfl, rfl⟩ := hrel
      have hcl := cnt_le p (ss.take k)
      have hcl2 : (ss.take k).length ≤ k := List.length_take_le _ _
      have ht0 : ¬ k < n → List.take k ss = ss := fun h => List.take_of_length_le (by omega)
      by_cases hlt : k < n
      · have hck := hc k (by omega)
        clear ht0
        have HS : Hid (cnt p (ss.take (k + 1)) = cnt p (ss.take k) + if ((ss[k]?.getD ByteArray.empty).toList == p.toList) then 1 else 0) := by
          rw [take_snoc ss k (by omega)]; exact cnt_snoc _ _ _
        go_wp2
        · have ht : ((ss[k]?.getD ByteArray.empty).toList == p.toList) = true := by assumption
          exact ⟨⟨k + 1, by omega, by go_num, by rw [HS.out, if_pos ht]; go_num⟩, by simp [intOf]; omega⟩
        · have ht : ((ss[k]?.getD ByteArray.empty).toList == p.toList) = false := by assumption
          exact ⟨⟨k + 1, by omega, by go_num, by rw [HS.out, ht]; go_num⟩, by simp [intOf]; omega⟩
      · have ht1 := ht0 hlt
        clear ht0
        go_wp2
        go_ret
        exact ⟨rfl, rfl⟩

end Go.Proofs.Qxb6614244a
