import Derived.Test.Qxb6614335aP
namespace Go.Proofs.Qxb6614335a
open Go.RowKit Go.Maps Go.WideMaps

set_option maxHeartbeats 1000000 in
set_option maxRecDepth 100000 in
theorem order_big (a : Option Addr) (n cap : Nat) (ns : List ByteArray) (a' : Option Addr) (n' cap' : Nat) (fs : List ByteArray) (x y : Int) (p : ByteArray) (w : World) (hs : Strs w a ns) (hn : n = ns.length) (hs' : Strs w a' fs) (hn' : n' = fs.length)
    (hb : (65536 : Int) < n ∨ (65536 : Int) < n' ∨ (65536 : Int) < p.size) :
    Calls Try.prog 4 #[.slice a n cap, .slice a' n' cap', .int .i64 x, .int .i64 y, .string p] w fun e w' => e = .returned (.bool true) ∧ Below w.heap.size w w' := by
  have Hn : Hid (n = ns.length) := hn
  have Hn' : Hid (n' = fs.length) := hn'
  clear hn hn'
  by_cases h1 : (65536 : Int) < n
  · clear hb
    go_enter Try.func4, Try.ntmps4
    go_wp2_with (first
      | (go_at_call 15; refine (bytes2 a n cap ns a' n' cap' fs x y p _ hs Hn.out hs' Hn'.out).mono ?_; rintro e w1 ⟨⟨r, rfl⟩, rfl⟩; cases r))
    all_goals (go_ret; exact ⟨rfl, Below.refl _ _⟩)
  have d1 : decide ((65536 : Int) < n) = false := decide_eq_false h1
  by_cases h2 : (65536 : Int) < n'
  · clear hb
    go_enter Try.func4, Try.ntmps4
    go_wp2_with (first
      | (go_at_call 15; refine (bytes2 a n cap ns a' n' cap' fs x y p _ hs Hn.out hs' Hn'.out).mono ?_; rintro e w1 ⟨⟨r, rfl⟩, rfl⟩; cases r))
    all_goals (go_ret; exact ⟨rfl, Below.refl _ _⟩)
  have d2 : decide ((65536 : Int) < n') = false := decide_eq_false h2
  have h3 : (65536 : Int) < p.size := by omega
  clear hb
  go_enter Try.func4, Try.ntmps4
  go_wp2_with (first
    | (go_at_call 15; refine (bytes2 a n cap ns a' n' cap' fs x y p _ hs Hn.out hs' Hn'.out).mono ?_; rintro e w1 ⟨⟨r, rfl⟩, rfl⟩; cases r))
  all_goals (go_ret; exact ⟨rfl, Below.refl _ _⟩)

set_option maxHeartbeats 1000000 in
set_option maxRecDepth 100000 in
theorem order_out (a : Option Addr) (n cap : Nat) (ns : List ByteArray) (a' : Option Addr) (n' cap' : Nat) (fs : List ByteArray) (x y : Int) (p : ByteArray) (w : World) (hs : Strs w a ns) (hn : n = ns.length) (hs' : Strs w a' fs) (hn' : n' = fs.length)
    (h1 : (n : Int) ≤ 65536) (h2 : (n' : Int) ≤ 65536) (h3 : (p.size : Int) ≤ 65536) (hb : ¬ n' = n ∨ x < 0 ∨ (n : Int) < x) :
    Calls Try.prog 4 #[.slice a n cap, .slice a' n' cap', .int .i64 x, .int .i64 y, .string p] w fun e w' => e = .returned (.bool true) ∧ Below w.heap.size w w' := by
  have Hn : Hid (n = ns.length) := hn
  have Hn' : Hid (n' = fs.length) := hn'
  clear hn hn'
  have d1 : decide ((65536 : Int) < n) = false := decide_eq_false (by omega)
  have d2 : decide ((65536 : Int) < n') = false := decide_eq_false (by omega)
  have d3 : decide ((65536 : Int) < p.size) = false := decide_eq_false (by omega)
  by_cases c1 : n' = n
  · by_cases c2 : x < 0
    · subst c1
      clear hb
      go_enter Try.func4, Try.ntmps4
      go_wp2_with (first
        | (go_at_call 15; refine (bytes2 a n' cap ns a' n' cap' fs x y p _ hs Hn.out hs' Hn'.out).mono ?_; rintro e w1 ⟨⟨r, rfl⟩, rfl⟩; cases r)
        | (go_at_call_of 6 (a); refine (adds_any _ a n' cap ns _ hs Hn.out (by omega)).mono ?_; rintro e w1 ⟨⟨z, rfl⟩, rfl⟩)
        | (go_at_call_of 6 (a'); refine (adds_any _ a' n' cap' fs _ hs' Hn'.out (by omega)).mono ?_; rintro e w1 ⟨⟨z1, rfl⟩, rfl⟩)
        | (go_at_call 7; refine (add1_any _ p _).mono ?_; rintro e w1 ⟨⟨z2, rfl⟩, rfl⟩; rcases Bool.eq_false_or_eq_true (decide ((1048576 : Int) < z2)) with dz | dz))
      all_goals (go_ret; exact ⟨rfl, Below.refl _ _⟩)
    · have e2 : decide (x < 0) = false := decide_eq_false c2
      have c3 : (n : Int) < x := by omega
      subst c1
      clear hb
      go_enter Try.func4, Try.ntmps4
      go_wp2_with (first
        | (go_at_call 15; refine (bytes2 a n' cap ns a' n' cap' fs x y p _ hs Hn.out hs' Hn'.out).mono ?_; rintro e w1 ⟨⟨r, rfl⟩, rfl⟩; cases r)
        | (go_at_call_of 6 (a); refine (adds_any _ a n' cap ns _ hs Hn.out (by omega)).mono ?_; rintro e w1 ⟨⟨z, rfl⟩, rfl⟩)
        | (go_at_call_of 6 (a'); refine (adds_any _ a' n' cap' fs _ hs' Hn'.out (by omega)).mono ?_; rintro e w1 ⟨⟨z1, rfl⟩, rfl⟩)
        | (go_at_call 7; refine (add1_any _ p _).mono ?_; rintro e w1 ⟨⟨z2, rfl⟩, rfl⟩; rcases Bool.eq_false_or_eq_true (decide ((1048576 : Int) < z2)) with dz | dz))
      all_goals (go_ret; exact ⟨rfl, Below.refl _ _⟩)
  · have e1 : ((n' : Int) != (n : Int)) = true := by simp; omega
    clear hb
    go_enter Try.func4, Try.ntmps4
    go_wp2_with (first
      | (go_at_call 15; refine (bytes2 a n cap ns a' n' cap' fs x y p _ hs Hn.out hs' Hn'.out).mono ?_; rintro e w1 ⟨⟨r, rfl⟩, rfl⟩; cases r)
      | (go_at_call_of 6 (a); refine (adds_any _ a n cap ns _ hs Hn.out (by omega)).mono ?_; rintro e w1 ⟨⟨z, rfl⟩, rfl⟩)
      | (go_at_call_of 6 (a'); refine (adds_any _ a' n' cap' fs _ hs' Hn'.out (by omega)).mono ?_; rintro e w1 ⟨⟨z1, rfl⟩, rfl⟩)
      | (go_at_call 7; refine (add1_any _ p _).mono ?_; rintro e w1 ⟨⟨z2, rfl⟩, rfl⟩; rcases Bool.eq_false_or_eq_true (decide ((1048576 : Int) < z2)) with dz | dz))
    all_goals (go_ret; exact ⟨rfl, Below.refl _ _⟩)

end Go.Proofs.Qxb6614335a
