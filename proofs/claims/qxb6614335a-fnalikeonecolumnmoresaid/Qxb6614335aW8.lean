import Derived.Test.Qxb6614335aP
import Derived.Test.Qxb6614335aW1b
namespace Go.Proofs.Qxb6614335a
open Go.RowKit Go.Maps Go.WideMaps

set_option maxHeartbeats 2000000 in
set_option maxRecDepth 100000 in
theorem more_big (a0 : Option Addr) (n0 cap0 : Nat) (rn : List ByteArray) (a1 : Option Addr) (n1 cap1 : Nat) (rf : List ByteArray) (a2 : Option Addr) (n2 cap2 : Nat) (on : List ByteArray) (a3 : Option Addr) (n3 cap3 : Nat) (og : List ByteArray) (c v u : ByteArray) (w : World)
    (hs0 : Strs w a0 rn) (hn0 : n0 = rn.length) (hs1 : Strs w a1 rf) (hn1 : n1 = rf.length) (hs2 : Strs w a2 on) (hn2 : n2 = on.length) (hs3 : Strs w a3 og) (hn3 : n3 = og.length)
    (hb : (65536 : Int) < n0 ∨ (65536 : Int) < n1 ∨ (65536 : Int) < n2 ∨ (65536 : Int) < n3 ∨ (65536 : Int) < c.size ∨ (65536 : Int) < v.size ∨ (65536 : Int) < u.size) :
    Calls Try.prog 3 #[.slice a0 n0 cap0, .slice a1 n1 cap1, .slice a2 n2 cap2, .slice a3 n3 cap3, .string c, .string v, .string u] w fun e w' => e = .returned (.bool true) ∧ Below w.heap.size w w' := by
  have H0 : Hid (n0 = rn.length) := hn0
  have H1 : Hid (n1 = rf.length) := hn1
  have H2 : Hid (n2 = on.length) := hn2
  have H3 : Hid (n3 = og.length) := hn3
  clear hn0 hn1 hn2 hn3
  by_cases g0 : (65536 : Int) < n0
  · clear hb
    go_enter Try.func3, Try.ntmps3
    go_wp2_with (first
      | (go_at_call 5; refine (bytes4 a0 n0 cap0 rn a1 n1 cap1 rf a2 n2 cap2 on a3 n3 cap3 og c v u _ hs0 H0.out hs1 H1.out hs2 H2.out hs3 H3.out).mono ?_; rintro e w1 ⟨⟨r, rfl⟩, rfl⟩; cases r))
    all_goals (go_ret; exact ⟨rfl, Below.refl _ _⟩)
  have d0 : decide ((65536 : Int) < n0) = false := decide_eq_false g0
  by_cases g1 : (65536 : Int) < n1
  · clear hb
    go_enter Try.func3, Try.ntmps3
    go_wp2_with (first
      | (go_at_call 5; refine (bytes4 a0 n0 cap0 rn a1 n1 cap1 rf a2 n2 cap2 on a3 n3 cap3 og c v u _ hs0 H0.out hs1 H1.out hs2 H2.out hs3 H3.out).mono ?_; rintro e w1 ⟨⟨r, rfl⟩, rfl⟩; cases r))
    all_goals (go_ret; exact ⟨rfl, Below.refl _ _⟩)
  have d1 : decide ((65536 : Int) < n1) = false := decide_eq_false g1
  by_cases g2 : (65536 : Int) < n2
  · clear hb
    go_enter Try.func3, Try.ntmps3
    go_wp2_with (first
      | (go_at_call 5; refine (bytes4 a0 n0 cap0 rn a1 n1 cap1 rf a2 n2 cap2 on a3 n3 cap3 og c v u _ hs0 H0.out hs1 H1.out hs2 H2.out hs3 H3.out).mono ?_; rintro e w1 ⟨⟨r, rfl⟩, rfl⟩; cases r))
    all_goals (go_ret; exact ⟨rfl, Below.refl _ _⟩)
  have d2 : decide ((65536 : Int) < n2) = false := decide_eq_false g2
  by_cases g3 : (65536 : Int) < n3
  · clear hb
    go_enter Try.func3, Try.ntmps3
    go_wp2_with (first
      | (go_at_call 5; refine (bytes4 a0 n0 cap0 rn a1 n1 cap1 rf a2 n2 cap2 on a3 n3 cap3 og c v u _ hs0 H0.out hs1 H1.out hs2 H2.out hs3 H3.out).mono ?_; rintro e w1 ⟨⟨r, rfl⟩, rfl⟩; cases r))
    all_goals (go_ret; exact ⟨rfl, Below.refl _ _⟩)
  have d3 : decide ((65536 : Int) < n3) = false := decide_eq_false g3
  by_cases g4 : (65536 : Int) < c.size
  · clear hb
    go_enter Try.func3, Try.ntmps3
    go_wp2_with (first
      | (go_at_call 5; refine (bytes4 a0 n0 cap0 rn a1 n1 cap1 rf a2 n2 cap2 on a3 n3 cap3 og c v u _ hs0 H0.out hs1 H1.out hs2 H2.out hs3 H3.out).mono ?_; rintro e w1 ⟨⟨r, rfl⟩, rfl⟩; cases r))
    all_goals (go_ret; exact ⟨rfl, Below.refl _ _⟩)
  have d4 : decide ((65536 : Int) < c.size) = false := decide_eq_false g4
  by_cases g5 : (65536 : Int) < v.size
  · clear hb
    go_enter Try.func3, Try.ntmps3
    go_wp2_with (first
      | (go_at_call 5; refine (bytes4 a0 n0 cap0 rn a1 n1 cap1 rf a2 n2 cap2 on a3 n3 cap3 og c v u _ hs0 H0.out hs1 H1.out hs2 H2.out hs3 H3.out).mono ?_; rintro e w1 ⟨⟨r, rfl⟩, rfl⟩; cases r))
    all_goals (go_ret; exact ⟨rfl, Below.refl _ _⟩)
  have d5 : decide ((65536 : Int) < v.size) = false := decide_eq_false g5
  have g6 : (65536 : Int) < u.size := by omega
  clear hb
  go_enter Try.func3, Try.ntmps3
  go_wp2_with (first
    | (go_at_call 5; refine (bytes4 a0 n0 cap0 rn a1 n1 cap1 rf a2 n2 cap2 on a3 n3 cap3 og c v u _ hs0 H0.out hs1 H1.out hs2 H2.out hs3 H3.out).mono ?_; rintro e w1 ⟨⟨r, rfl⟩, rfl⟩; cases r))
  all_goals (go_ret; exact ⟨rfl, Below.refl _ _⟩)

set_option maxHeartbeats 2000000 in
set_option maxRecDepth 100000 in
theorem more_out (a0 : Option Addr) (n0 cap0 : Nat) (rn : List ByteArray) (a1 : Option Addr) (n1 cap1 : Nat) (rf : List ByteArray) (a2 : Option Addr) (n2 cap2 : Nat) (on : List ByteArray) (a3 : Option Addr) (n3 cap3 : Nat) (og : List ByteArray) (c v u : ByteArray) (w : World)
    (hs0 : Strs w a0 rn) (hn0 : n0 = rn.length) (hs1 : Strs w a1 rf) (hn1 : n1 = rf.length) (hs2 : Strs w a2 on) (hn2 : n2 = on.length) (hs3 : Strs w a3 og) (hn3 : n3 = og.length)
    (g0 : (n0 : Int) ≤ 65536) (g1 : (n1 : Int) ≤ 65536) (g2 : (n2 : Int) ≤ 65536) (g3 : (n3 : Int) ≤ 65536) (g4 : (c.size : Int) ≤ 65536) (g5 : (v.size : Int) ≤ 65536) (g6 : (u.size : Int) ≤ 65536) (hb : ¬ n1 = n0 ∨ ¬ n3 = n2) :
    Calls Try.prog 3 #[.slice a0 n0 cap0, .slice a1 n1 cap1, .slice a2 n2 cap2, .slice a3 n3 cap3, .string c, .string v, .string u] w fun e w' => e = .returned (.bool true) ∧ Below w.heap.size w w' := by
  have H0 : Hid (n0 = rn.length) := hn0
  have H1 : Hid (n1 = rf.length) := hn1
  have H2 : Hid (n2 = on.length) := hn2
  have H3 : Hid (n3 = og.length) := hn3
  clear hn0 hn1 hn2 hn3
  have d0 : decide ((65536 : Int) < n0) = false := decide_eq_false (by omega)
  have d1 : decide ((65536 : Int) < n1) = false := decide_eq_false (by omega)
  have d2 : decide ((65536 : Int) < n2) = false := decide_eq_false (by omega)
  have d3 : decide ((65536 : Int) < n3) = false := decide_eq_false (by omega)
  have d4 : decide ((65536 : Int) < c.size) = false := decide_eq_false (by omega)
  have d5 : decide ((65536 : Int) < v.size) = false := decide_eq_false (by omega)
  have d6 : decide ((65536 : Int) < u.size) = false := decide_eq_false (by omega)
  by_cases c1 : n1 = n0
  · have c2 : ¬ n3 = n2 := hb.resolve_left (fun h => h c1)
    have e1 : ((n1 : Int) != (n0 : Int)) = false := by simp; omega
    have e2 : ((n3 : Int) != (n2 : Int)) = true := by simp; omega
    clear hb c1
    go_enter Try.func3, Try.ntmps3
    go_wp2_with (first
      | (go_at_call 5; refine (bytes4 a0 n0 cap0 rn a1 n1 cap1 rf a2 n2 cap2 on a3 n3 cap3 og c v u _ hs0 H0.out hs1 H1.out hs2 H2.out hs3 H3.out).mono ?_; rintro e w1 ⟨⟨r, rfl⟩, rfl⟩; cases r)
      | (go_at_call_of 6 (a0); refine (adds_any _ a0 n0 cap0 rn _ hs0 H0.out (by omega)).mono ?_; rintro e w1 ⟨⟨z0, rfl⟩, rfl⟩)
      | (go_at_call_of 6 (a1); refine (adds_any _ a1 n1 cap1 rf _ hs1 H1.out (by omega)).mono ?_; rintro e w1 ⟨⟨z1, rfl⟩, rfl⟩)
      | (go_at_call_of 6 (a2); refine (adds_any _ a2 n2 cap2 on _ hs2 H2.out (by omega)).mono ?_; rintro e w1 ⟨⟨z2, rfl⟩, rfl⟩)
      | (go_at_call_of 6 (a3); refine (adds_any _ a3 n3 cap3 og _ hs3 H3.out (by omega)).mono ?_; rintro e w1 ⟨⟨z3, rfl⟩, rfl⟩)
      | (go_at_call_of 7 (c); refine (add1_any _ c _).mono ?_; rintro e w1 ⟨⟨z4, rfl⟩, rfl⟩)
      | (go_at_call_of 7 (v); refine (add1_any _ v _).mono ?_; rintro e w1 ⟨⟨z5, rfl⟩, rfl⟩)
      | (go_at_call_of 7 (u); refine (add1_any _ u _).mono ?_; rintro e w1 ⟨⟨z6, rfl⟩, rfl⟩; rcases Bool.eq_false_or_eq_true (decide ((1048576 : Int) < z6)) with dz | dz))
    all_goals (go_ret; exact ⟨rfl, Below.refl _ _⟩)
  · have e1 : ((n1 : Int) != (n0 : Int)) = true := by simp; omega
    clear hb
    go_enter Try.func3, Try.ntmps3
    go_wp2_with (first
      | (go_at_call 5; refine (bytes4 a0 n0 cap0 rn a1 n1 cap1 rf a2 n2 cap2 on a3 n3 cap3 og c v u _ hs0 H0.out hs1 H1.out hs2 H2.out hs3 H3.out).mono ?_; rintro e w1 ⟨⟨r, rfl⟩, rfl⟩; cases r)
      | (go_at_call_of 6 (a0); refine (adds_any _ a0 n0 cap0 rn _ hs0 H0.out (by omega)).mono ?_; rintro e w1 ⟨⟨z0, rfl⟩, rfl⟩)
      | (go_at_call_of 6 (a1); refine (adds_any _ a1 n1 cap1 rf _ hs1 H1.out (by omega)).mono ?_; rintro e w1 ⟨⟨z1, rfl⟩, rfl⟩)
      | (go_at_call_of 6 (a2); refine (adds_any _ a2 n2 cap2 on _ hs2 H2.out (by omega)).mono ?_; rintro e w1 ⟨⟨z2, rfl⟩, rfl⟩)
      | (go_at_call_of 6 (a3); refine (adds_any _ a3 n3 cap3 og _ hs3 H3.out (by omega)).mono ?_; rintro e w1 ⟨⟨z3, rfl⟩, rfl⟩)
      | (go_at_call_of 7 (c); refine (add1_any _ c _).mono ?_; rintro e w1 ⟨⟨z4, rfl⟩, rfl⟩)
      | (go_at_call_of 7 (v); refine (add1_any _ v _).mono ?_; rintro e w1 ⟨⟨z5, rfl⟩, rfl⟩)
      | (go_at_call_of 7 (u); refine (add1_any _ u _).mono ?_; rintro e w1 ⟨⟨z6, rfl⟩, rfl⟩; rcases Bool.eq_false_or_eq_true (decide ((1048576 : Int) < z6)) with dz | dz))
    all_goals (go_ret; exact ⟨rfl, Below.refl _ _⟩)

end Go.Proofs.Qxb6614335a
