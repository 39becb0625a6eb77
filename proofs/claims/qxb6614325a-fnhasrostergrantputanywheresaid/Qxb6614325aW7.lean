import Derived.Test.Qxb6614325aW6
namespace Go.Proofs.Qxb6614325a
open Go.RowKit

set_option maxHeartbeats 2000000 in
set_option maxRecDepth 100000 in
theorem law_big (a : Option Addr) (n cap : Nat) (rs : List Roll) (x : Int) (a' : Option Addr) (n' cap' : Nat) (w : World) (hs : Rolls w a rs) (hn : n = rs.length) (hs' : Tees w a' n') (hN : ¬ n ≤ 65536) :
    Calls Try.prog 3 #[.slice a n cap, .int .i64 x, .slice a' n' cap'] w fun e w' => e = .returned (.bool true) ∧ Below w.heap.size w w' := by
  have Hn : Hid (n = rs.length) := hn
  clear hn
  go_enter Try.func3, Try.ntmps3
  go_wp2_with (first
    | (go_at_call 4; refine (bytes_any a n cap rs x a' n' cap' _ hs Hn.out hs').mono ?_; rintro e w1 ⟨⟨r, rfl⟩, rfl⟩; cases r)
    | (go_at_call 5; refine (fit_any a n cap rs _ hs Hn.out).mono ?_; rintro e w2 ⟨⟨r2, rfl, hfit⟩, rfl⟩; cases r2; rotate_left; exact absurd (hfit rfl).1 hN))
  all_goals (go_ret; exact ⟨rfl, Below.refl _ _⟩)

set_option maxHeartbeats 2000000 in
set_option maxRecDepth 100000 in
theorem law_out (a : Option Addr) (n cap : Nat) (rs : List Roll) (x : Int) (a' : Option Addr) (n' cap' : Nat) (w : World) (hs : Rolls w a rs) (hn : n = rs.length) (hs' : Tees w a' n') (hx : x < 0 ∨ (n : Int) < x) :
    Calls Try.prog 3 #[.slice a n cap, .int .i64 x, .slice a' n' cap'] w fun e w' => e = .returned (.bool true) ∧ Below w.heap.size w w' := by
  have Hn : Hid (n = rs.length) := hn
  clear hn
  by_cases c1 : x < 0
  · clear hx
    go_enter Try.func3, Try.ntmps3
    go_wp2_with (first
      | (go_at_call 4; refine (bytes_any a n cap rs x a' n' cap' _ hs Hn.out hs').mono ?_; rintro e w1 ⟨⟨r, rfl⟩, rfl⟩; cases r)
      | (go_at_call 5; refine (fit_any a n cap rs _ hs Hn.out).mono ?_; rintro e w2 ⟨⟨r2, rfl, hfit⟩, rfl⟩; clear hfit; cases r2)
      | (go_at_call 6; refine (addg_any 0 a' n' cap' _ hs').mono ?_; rintro e w3 ⟨⟨y, rfl, hy⟩, rfl⟩; clear hy; rcases Bool.eq_false_or_eq_true (decide ((524288 : Int) < y)) with dy | dy))
    all_goals (go_ret; exact ⟨rfl, Below.refl _ _⟩)
  · have c2 : (n : Int) < x := by omega
    have e1 : decide (x < 0) = false := decide_eq_false c1
    clear hx
    go_enter Try.func3, Try.ntmps3
    go_wp2_with (first
      | (go_at_call 4; refine (bytes_any a n cap rs x a' n' cap' _ hs Hn.out hs').mono ?_; rintro e w1 ⟨⟨r, rfl⟩, rfl⟩; cases r)
      | (go_at_call 5; refine (fit_any a n cap rs _ hs Hn.out).mono ?_; rintro e w2 ⟨⟨r2, rfl, hfit⟩, rfl⟩; clear hfit; cases r2)
      | (go_at_call 6; refine (addg_any 0 a' n' cap' _ hs').mono ?_; rintro e w3 ⟨⟨y, rfl, hy⟩, rfl⟩; clear hy; rcases Bool.eq_false_or_eq_true (decide ((524288 : Int) < y)) with dy | dy))
    all_goals (go_ret; exact ⟨rfl, Below.refl _ _⟩)

set_option maxHeartbeats 2000000 in
set_option maxRecDepth 100000 in
theorem law_in (a : Option Addr) (n cap : Nat) (rs : List Roll) (g : Nat) (a' : Option Addr) (n' cap' : Nat) (w : World) (hs : Rolls w a rs) (hn : n = rs.length) (hs' : Tees w a' n') (hN : n ≤ 65536) (hg : g ≤ n) :
    Calls Try.prog 3 #[.slice a n cap, .int .i64 (g : Int), .slice a' n' cap'] w fun e w' => e = .returned (.bool true) ∧ Below w.heap.size w w' := by
  have Hn : Hid (n = rs.length) := hn
  have hn1 : n ≤ rs.length := Nat.le_of_eq hn
  have hn2 : rs.length ≤ n := Nat.le_of_eq hn.symm
  clear hn
  have q23 : ∀ (w : World) (a : Option Addr) (n c : Nat), (binOp .neq 23 (.slice a n c) (.slice none 0 0)).run Try.prog w = .ok (.bool (!a.isNone)) w := fun w a n c => run_neq_slice_nil_any w _ _ _ _ _ _ _ Try.underlying23
  have hmk := run_make_rolls n hN
  have e1 : decide ((g : Int) < 0) = false := decide_eq_false (by omega)
  have e2 : decide ((n : Int) < g) = false := decide_eq_false (by omega)
  go_enter Try.func3, Try.ntmps3
  go_wp2_with (first
    | (go_at_call 4; refine (bytes_any a n cap rs g a' n' cap' _ hs Hn.out hs').mono ?_; rintro e w1 ⟨⟨r, rfl⟩, rfl⟩; cases r)
    | (go_at_call 5; refine (fit_any a n cap rs _ hs Hn.out).mono ?_; rintro e w2 ⟨⟨r2, rfl, hfit⟩, rfl⟩; have HF : Hid (r2 = true → n ≤ 65536 ∧ ∀ i, i < n → (rs.getD i nilRoll).l ≤ 32768) := hfit; clear hfit; cases r2)
    | (go_at_call 6; refine (addg_any 0 a' n' cap' _ hs').mono ?_; rintro e w3 ⟨⟨y, rfl, hy⟩, rfl⟩; rcases Bool.eq_false_or_eq_true (decide ((524288 : Int) < y)) with dy | dy))
  · go_ret; exact ⟨rfl, Below.refl _ _⟩
  · go_ret; exact ⟨rfl, Below.refl _ _⟩
  · go_ret; exact ⟨rfl, Below.refl _ _⟩
  have hall := (HF.out trivial).2
  have Hall : Hid (∀ i, i < n → (rs.getD i nilRoll).l ≤ 32768) := hall
  clear hall HF
  have hl' : n' ≤ 32768 := hy (by have : y ≤ 524288 := by simpa using dy
                                  omega)
  clear hy
  go_loopw [8] (fun i wr => ∃ k : Nat, k ≤ n ∧ i = .int .i64 k ∧ wr.rowIs w3.heap.size 23 (n + 1) (ins rs g k) ∧ Below w3.heap.size w3 wr) (fun i _ => n - (intOf i).toNat)
  case atStart => exact ⟨0, Nat.zero_le _, rfl, (World.rowIs_made _ _ _ _).congr (fun j _ => by unfold ins; rw [if_neg (by omega), if_neg (by omega)]), (Below.refl _ _).alloc (Nat.le_refl _) _⟩
  case round =>
    obtain ⟨k, hk, rfl, hrow, hbw⟩ := hrel
    by_cases hlt : k < n
    · obtain ⟨b, off, ra, rl, rc, hr, hxa, hb, hck, ht⟩ := (hs.below hbw).at (i := k) (by omega)
      have HR : Hid (rs.getD k nilRoll = ⟨ra, rl, rc⟩) := hr
      subst hxa
      clear hr ht
      by_cases hkg : k < g
      · have hcr := hrow.cell (i := k) (by omega)
        have hfr := hrow.frozen k
        go_wp2
        refine ⟨⟨k + 1, by omega, by go_num, (hrow.set k _).congr (fun j _ => ?_), hbw.setCell (Nat.le_refl _) _⟩, by simp [intOf]; omega⟩
        have h := ins_low (rs := rs) hkg j
        rw [HR.out] at h
        exact h
      · have hcr := hrow.cell (i := k + 1) (by omega)
        have hfr := hrow.frozen (k + 1)
        go_wp2
        refine ⟨⟨k + 1, by omega, by go_num, (hrow.set (k + 1) _).congr (fun j _ => ?_), hbw.setCell (Nat.le_refl _) _⟩, by simp [intOf]; omega⟩
        have h := ins_high (rs := rs) hkg j
        rw [HR.out] at h
        exact h
    · have hkn : k = n := by omega
      rw [hkn] at hrow
      clear hkn
      have hcr := hrow.cell (i := g) (by omega)
      have hfr := hrow.frozen g
      have hbW : Below w3.heap.size w3 (wr.setCell ⟨w3.heap.size, g, none⟩ (.slice a' n' cap')) := hbw.setCell (Nat.le_refl _) _
      have hp := rolls_put (g := g) (r := ⟨a', n', cap'⟩) (by omega) Hn.out hs hbW hs' (hrow.set g (.slice a' n' cap'))
      have hsh := short_put (g := g) (r := ⟨a', n', cap'⟩) (by omega) Hn.out Hall.out hl'
      have hlen : n + 1 = (put rs g ⟨a', n', cap'⟩).length := by rw [put_length (by omega), ← Hn.out]
      have key := hasB_put (rs := rs) (g := g) ⟨a', n', cap'⟩
      have HS : Hid (∀ i, i < n + 1 → ((put rs g ⟨a', n', cap'⟩).getD i nilRoll).l ≤ 32768) := hsh
      have HL : Hid (n + 1 = (put rs g ⟨a', n', cap'⟩).length) := hlen
      have HK : Hid (hasB (put rs g ⟨a', n', cap'⟩) = (hasB rs || a'.isSome)) := key
      clear hsh hlen key
      generalize put rs g ⟨a', n', cap'⟩ = rs2 at *
      go_wp2_with fail
      refine (planOf_any a n cap rs _ (hs.below hbW) Hn.out (by omega) Hall.out).mono ?_
      rintro e w4 ⟨b1, rfl, hm1, hb4⟩
      go_wp2_with fail
      refine (roster_any b1 rs w4 hm1 (by omega)).mono ?_
      rintro e w5 ⟨rfl, hb5⟩
      have hbW5 := hb4.trans (hb5.mono hb4.size)
      go_wp2_with fail
      refine (planOf_any _ (n + 1) (n + 1) rs2 _ (hp.below hbW5) HL.out (by omega) HS.out).mono ?_
      rintro e w6 ⟨b2, rfl, hm2, hb6⟩
      go_wp2_with fail
      refine (roster_any b2 rs2 w6 hm2 (by rw [← HL.out]; omega)).mono ?_
      rintro e w7 ⟨rfl, hb7⟩
      have hb35 : Below w3.heap.size w3 w5 := hbW.trans (hbW5.mono hbW.size)
      have hb36 : Below w3.heap.size w3 w6 := hb35.trans (hb6.mono hb35.size)
      have hb37 : Below w3.heap.size w3 w7 := hb36.trans (hb7.mono hb36.size)
      have hkk := HK.out
      rcases Bool.eq_false_or_eq_true (hasB rs) with r1 | r1 <;> rcases Bool.eq_false_or_eq_true a'.isSome with r2 | r2 <;> rw [r1, r2] at hkk <;> simp only [Bool.or_true, Bool.or_false] at hkk
      all_goals
        go_wp2
        go_ret
        exact ⟨rfl, hb37⟩

theorem law_any (a : Option Addr) (n cap : Nat) (rs : List Roll) (x : Int) (a' : Option Addr) (n' cap' : Nat) (w : World) (hs : Rolls w a rs) (hn : n = rs.length) (hs' : Tees w a' n') :
    Calls Try.prog 3 #[.slice a n cap, .int .i64 x, .slice a' n' cap'] w fun e w' => e = .returned (.bool true) ∧ Below w.heap.size w w' := by
  by_cases hN : n ≤ 65536
  · by_cases hx : x < 0 ∨ (n : Int) < x
    · exact law_out a n cap rs x a' n' cap' w hs hn hs' hx
    · obtain ⟨g, rfl⟩ : ∃ g : Nat, x = g := ⟨x.toNat, by omega⟩
      exact law_in a n cap rs g a' n' cap' w hs hn hs' hN (by omega)
  · exact law_big a n cap rs x a' n' cap' w hs hn hs' hN

end Go.Proofs.Qxb6614325a
