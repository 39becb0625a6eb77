import Derived.Test.Qxb6614248aW6
namespace Go.Proofs.Qxb6614248a
open Go.RowKit Go.Maps Go.WideMaps

theorem graded_cut {n n' g g' : Nat} (h : g ≤ n) (h' : g' ≤ n') : gradedB n n' = (gradedB g g' || gradedB (n - g) (n' - g')) := by
  unfold gradedB
  rw [Bool.eq_iff_iff]
  simp
  omega

set_option maxHeartbeats 2000000 in
set_option maxRecDepth 100000 in
theorem law_small (p : ByteArray) (a : Option Addr) (n cap : Nat) (ss : List ByteArray) (x : Int) (a' : Option Addr) (n' cap' : Nat) (ss' : List ByteArray) (x' : Int) (w : World) (hs : Strs w a ss) (hn : n = ss.length) (hsz : ∀ s ∈ ss, s.size ≤ maxLen) (hcap : n ≤ cap)
    (hs' : Strs w a' ss') (hn' : n' = ss'.length) (hcap' : n' ≤ cap') (h1 : (p.size : Int) ≤ 1048576) (h2 : (n : Int) ≤ 65536) (h3 : (n' : Int) ≤ 65536) (h4 : (p.size : Int) + 16 * n + 16 * n' ≤ 1048576) :
    Calls Try.prog 3 #[.string p, .slice a n cap, .int .i64 x, .slice a' n' cap', .int .i64 x'] w fun e w' => e = .returned (.bool true) ∧ Below w.heap.size w w' := by
  have Hn : Hid (n = ss.length) := hn
  have Hn' : Hid (n' = ss'.length) := hn'
  have hn1 : n ≤ ss.length := Nat.le_of_eq hn
  have hn2 : n' ≤ ss'.length := Nat.le_of_eq hn'
  clear hn hn'
  have d1 : decide ((1048576 : Int) < p.size) = false := decide_eq_false (by omega)
  have d2 : decide ((65536 : Int) < n) = false := decide_eq_false (by omega)
  have d3 : decide ((65536 : Int) < n') = false := decide_eq_false (by omega)
  have d4 : decide ((1048576 : Int) < p.size + 16 * n + 16 * n') = false := decide_eq_false (by omega)
  go_enter Try.func3, Try.ntmps3
  go_wp2_with (first
    | (go_at_call 5; refine (bytes_any p a n cap ss x a' n' cap' ss' x' _ hs Hn.out hs' Hn'.out).mono ?_; rintro e w1 ⟨⟨r, rfl⟩, rfl⟩; cases r))
  · go_ret; exact ⟨rfl, Below.refl _ _⟩
  go_loop [11, 12] (fun t i => ∃ (k : Nat) (x : Int), k ≤ n ∧ i = .int .i64 k ∧ t = .int .i64 x) (fun _ i => n - (intOf i).toNat)
  case atStart => exact ⟨0, _, Nat.zero_le _, rfl, rfl⟩
  case round =>
    obtain ⟨k, y, hk, rfl, rfl⟩ := hrel
    by_cases hlt : k < n
    · obtain ⟨b, off, rfl, hb, hck⟩ := hs.at (k := k) (by omega)
      go_wp2
      · go_ret; exact ⟨rfl, Below.refl _ _⟩
      · exact ⟨⟨k + 1, _, by omega, by go_num, rfl⟩, by simp [intOf]; omega⟩
    · go_wp2
      go_loop [11, 13] (fun t i => ∃ (k : Nat) (x : Int), k ≤ n' ∧ i = .int .i64 k ∧ t = .int .i64 x) (fun _ i => n' - (intOf i).toNat)
      case atStart => exact ⟨0, _, Nat.zero_le _, rfl, rfl⟩
      case round =>
        obtain ⟨j, z, hj, rfl, rfl⟩ := hrel
        by_cases hlt' : j < n'
        · obtain ⟨b, off, rfl, hb, hck⟩ := hs'.at (k := j) (by omega)
          go_wp2
          · go_ret; exact ⟨rfl, Below.refl _ _⟩
          · exact ⟨⟨j + 1, _, by omega, by go_num, rfl⟩, by simp [intOf]; omega⟩
        · by_cases c1 : x < 0
          · go_wp2
            go_ret; exact ⟨rfl, Below.refl _ _⟩
          have e1 : decide (x < 0) = false := decide_eq_false c1
          by_cases c2 : (n : Int) < x
          · go_wp2
            go_ret; exact ⟨rfl, Below.refl _ _⟩
          have e2 : decide ((n : Int) < x) = false := decide_eq_false c2
          by_cases c3 : x' < 0
          · go_wp2
            go_ret; exact ⟨rfl, Below.refl _ _⟩
          have e3 : decide (x' < 0) = false := decide_eq_false c3
          by_cases c4 : (n' : Int) < x'
          · go_wp2
            go_ret; exact ⟨rfl, Below.refl _ _⟩
          have e4 : decide ((n' : Int) < x') = false := decide_eq_false c4
          obtain ⟨g, rfl⟩ : ∃ g : Nat, x = g := ⟨x.toNat, by omega⟩
          obtain ⟨g', rfl⟩ : ∃ g' : Nat, x' = g' := ⟨x'.toNat, by omega⟩
          have P1 : Hid (∀ W q, Below w1.heap.size w1 W → Calls Try.prog 6 #[.string p, .string q, .int .i64 0, .slice a g cap, .slice a' g' cap'] W fun e w' => PlanOut W w' g g' e) := fun W q hW =>
            plan_any p q 0 a g cap (ss.take g) a' g' cap' (ss'.take g') W (by omega) ((hs.below hW).take g) (by rw [List.length_take, ← Hn.out]; omega) (fun s h => hsz s (List.mem_of_mem_take h)) ((hs'.below hW).take g') (by rw [List.length_take, ← Hn'.out]; omega) (by omega)
          have P2 : Hid (∀ W q, Below w1.heap.size w1 W → Calls Try.prog 6 #[.string p, .string q, .int .i64 0, .slice (lowA a cap g) (n - g) (cap - g), .slice (lowA a' cap' g') (n' - g') (cap' - g')] W fun e w' => PlanOut W w' (n - g) (n' - g') e) := fun W q hW =>
            plan_any p q 0 (lowA a cap g) (n - g) (cap - g) (ss.drop g) (lowA a' cap' g') (n' - g') (cap' - g') (ss'.drop g') W (by omega) ((hs.below hW).drop (by rw [← Hn.out]; exact hcap) g) (by rw [List.length_drop, ← Hn.out]) (fun s h => hsz s (List.mem_of_mem_drop h)) ((hs'.below hW).drop (by rw [← Hn'.out]; exact hcap') g') (by rw [List.length_drop, ← Hn'.out]) (by omega)
          have sl1 := slice_hi a n cap g (by omega)
          have sl2 := slice_hi a' n' cap' g' (by omega)
          have sl3 := slice_lo a n cap g (by omega)
          have sl4 := slice_lo a' n' cap' g' (by omega)
          go_wp2_with fail
          refine (plan_any p { data := #[] } 0 a n cap ss a' n' cap' ss' w1 (by omega) hs Hn.out hsz hs' Hn'.out (by omega)).mono ?_
          rintro e w2 ⟨b1, rfl, ⟨s1, t1, hh1⟩, hb1⟩
          go_wp2_with fail
          refine (graded_any b1 n n' t1 s1 w2 hh1).mono ?_
          rintro e w3 ⟨rfl, rfl⟩
          go_wp2_with fail
          go_region_with (first
            | (go_at_call 6; refine (P1.out _ _ (by exact hb1.drew)).mono ?_; rintro e w4 ⟨b2, rfl, ⟨s2, t2, hh2⟩, hb2⟩)
            | (go_at_call 7; refine (graded_any b2 g g' t2 s2 _ hh2).mono ?_; rintro e w5 ⟨rfl, rfl⟩))
          have hz1 := hb1.size
          have hz2 : w3.heap.size ≤ w5.heap.size := hb2.size
          have hb5 : Below w1.heap.size w1 w5 := hb1.drew.trans (hb2.mono hz1)
          go_wp2_with fail
          go_region_with (first
            | (go_at_call 6; refine (P2.out _ _ (by exact hb5.drew)).mono ?_; rintro e w6 ⟨b3, rfl, ⟨s3, t3, hh3⟩, hb3⟩)
            | (go_at_call 7; refine (graded_any b3 (n - g) (n' - g') t3 s3 _ hh3).mono ?_; rintro e w7 ⟨rfl, rfl⟩))
          have hbz : Below w1.heap.size w1 w7 := hb5.drew.trans (hb3.mono (Nat.le_trans hz1 hz2))
          have key : gradedB n n' = (gradedB g g' || gradedB (n - g) (n' - g')) := graded_cut (by omega) (by omega)
          clear P1 P2 sl1 sl2 sl3 sl4 hh1 hh2 hh3 hb1 hb2 hb3 hb5 hs hs' hsz
          rcases Bool.eq_false_or_eq_true (gradedB g g') with q1 | q1 <;> rcases Bool.eq_false_or_eq_true (gradedB (n - g) (n' - g')) with q2 | q2 <;> by_cases k1 : 0 < n <;> by_cases k2 : 0 < n'
          all_goals first
            | (exfalso; rw [q1, q2] at key; simp [gradedB, k1, k2] at key; done)
            | (rw [q1, q2] at key; simp only [Bool.or_true, Bool.or_false] at key; go_wp2; go_ret; exact ⟨rfl, hbz⟩)

end Go.Proofs.Qxb6614248a
