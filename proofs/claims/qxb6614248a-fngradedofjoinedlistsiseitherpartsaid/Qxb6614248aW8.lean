import Derived.Test.Qxb6614248aW7
namespace Go.Proofs.Qxb6614248a
open Go.RowKit Go.Maps Go.WideMaps

set_option maxHeartbeats 1000000 in
set_option maxRecDepth 100000 in
theorem law_any (p : ByteArray) (a : Option Addr) (n cap : Nat) (ss : List ByteArray) (x : Int) (a' : Option Addr) (n' cap' : Nat) (ss' : List ByteArray) (x' : Int) (w : World) (hs : Strs w a ss) (hn : n = ss.length) (hsz : ∀ s ∈ ss, s.size ≤ maxLen) (hcap : n ≤ cap)
    (hs' : Strs w a' ss') (hn' : n' = ss'.length) (hcap' : n' ≤ cap') :
    Calls Try.prog 3 #[.string p, .slice a n cap, .int .i64 x, .slice a' n' cap', .int .i64 x'] w fun e w' => e = .returned (.bool true) ∧ Below w.heap.size w w' := by
  by_cases hall : (p.size : Int) ≤ 1048576 ∧ (n : Int) ≤ 65536 ∧ (n' : Int) ≤ 65536 ∧ (p.size : Int) + 16 * n + 16 * n' ≤ 1048576
  · exact law_small p a n cap ss x a' n' cap' ss' x' w hs hn hsz hcap hs' hn' hcap' hall.1 hall.2.1 hall.2.2.1 hall.2.2.2
  have Hn : Hid (n = ss.length) := hn
  have Hn' : Hid (n' = ss'.length) := hn'
  clear hn hn'
  by_cases h1 : (1048576 : Int) < p.size
  · clear hall
    go_enter Try.func3, Try.ntmps3
    go_wp2_with (first
      | (go_at_call 5; refine (bytes_any p a n cap ss x a' n' cap' ss' x' _ hs Hn.out hs' Hn'.out).mono ?_; rintro e w1 ⟨⟨r, rfl⟩, rfl⟩; cases r))
    all_goals (go_ret; exact ⟨rfl, Below.refl _ _⟩)
  have d1 : decide ((1048576 : Int) < p.size) = false := decide_eq_false h1
  by_cases h2 : (65536 : Int) < n
  · clear hall
    go_enter Try.func3, Try.ntmps3
    go_wp2_with (first
      | (go_at_call 5; refine (bytes_any p a n cap ss x a' n' cap' ss' x' _ hs Hn.out hs' Hn'.out).mono ?_; rintro e w1 ⟨⟨r, rfl⟩, rfl⟩; cases r))
    all_goals (go_ret; exact ⟨rfl, Below.refl _ _⟩)
  have d2 : decide ((65536 : Int) < n) = false := decide_eq_false h2
  by_cases h3 : (65536 : Int) < n'
  · clear hall
    go_enter Try.func3, Try.ntmps3
    go_wp2_with (first
      | (go_at_call 5; refine (bytes_any p a n cap ss x a' n' cap' ss' x' _ hs Hn.out hs' Hn'.out).mono ?_; rintro e w1 ⟨⟨r, rfl⟩, rfl⟩; cases r))
    all_goals (go_ret; exact ⟨rfl, Below.refl _ _⟩)
  have d3 : decide ((65536 : Int) < n') = false := decide_eq_false h3
  have h4 : (1048576 : Int) < p.size + 16 * n + 16 * n' := by omega
  clear hall
  go_enter Try.func3, Try.ntmps3
  go_wp2_with (first
    | (go_at_call 5; refine (bytes_any p a n cap ss x a' n' cap' ss' x' _ hs Hn.out hs' Hn'.out).mono ?_; rintro e w1 ⟨⟨r, rfl⟩, rfl⟩; cases r))
  all_goals (go_ret; exact ⟨rfl, Below.refl _ _⟩)

end Go.Proofs.Qxb6614248a
