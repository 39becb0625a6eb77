import Derived.Test.Qxb6614335aW1
namespace Go.Proofs.Qxb6614335a
open Go.RowKit

set_option maxHeartbeats 2000000 in
set_option maxRecDepth 100000 in
/-- zzBytes of the law on one column more: it answers a bool and only reads. -/
theorem bytes4 (a0 : Option Addr) (n0 cap0 : Nat) (ss0 : List ByteArray) (a1 : Option Addr) (n1 cap1 : Nat) (ss1 : List ByteArray) (a2 : Option Addr) (n2 cap2 : Nat) (ss2 : List ByteArray) (a3 : Option Addr) (n3 cap3 : Nat) (ss3 : List ByteArray) (p q r : ByteArray) (w : World) (hs0 : Strs w a0 ss0) (hn0 : n0 = ss0.length) (hs1 : Strs w a1 ss1) (hn1 : n1 = ss1.length) (hs2 : Strs w a2 ss2) (hn2 : n2 = ss2.length) (hs3 : Strs w a3 ss3) (hn3 : n3 = ss3.length) :
    Calls Try.prog 5 #[.slice a0 n0 cap0, .slice a1 n1 cap1, .slice a2 n2 cap2, .slice a3 n3 cap3, .string p, .string q, .string r] w fun e w' => AnyBool e ∧ w' = w := by
  have hm0 : n0 ≤ ss0.length := Nat.le_of_eq hn0
  have hm1 : n1 ≤ ss1.length := Nat.le_of_eq hn1
  have hm2 : n2 ≤ ss2.length := Nat.le_of_eq hn2
  have hm3 : n3 ≤ ss3.length := Nat.le_of_eq hn3
  clear hn0 hn1 hn2 hn3
  by_cases h1 : (1048576 : Int) < n0
  · go_enter Try.func5, Try.ntmps5
    go_wp2
    go_ret; exact ⟨anyBool rfl, rfl⟩
  have d1 : decide ((1048576 : Int) < n0) = false := decide_eq_false h1
  go_enter Try.func5, Try.ntmps5
  go_wp2
  go_loop [15, 16] (fun t i => ∃ (k : Nat) (x : Int), k ≤ n0 ∧ i = .int .i64 k ∧ t = .int .i64 x) (fun _ i => n0 - (intOf i).toNat)
  case atStart => exact ⟨0, _, Nat.zero_le _, rfl, rfl⟩
  case round =>
    obtain ⟨k0, y0, hk0, rfl, rfl⟩ := hrel
    by_cases hlt0 : k0 < n0
    · obtain ⟨b, off, rfl, hb, hck⟩ := hs0.at (k := k0) (by omega)
      go_wp2
      · go_ret; exact ⟨anyBool rfl, rfl⟩
      · go_ret; exact ⟨anyBool rfl, rfl⟩
      · exact ⟨⟨k0 + 1, _, by omega, by go_num, rfl⟩, by simp [intOf]; omega⟩
    rcases Bool.eq_false_or_eq_true (decide ((1048576 : Int) < n1)) with d1a | d1a
    · go_wp2
      go_ret; exact ⟨anyBool rfl, rfl⟩
    have g1 : (n1 : Int) ≤ 1048576 := by simpa using d1a
    rcases Bool.eq_false_or_eq_true (decide ((1048576 : Int) < wrap64 (y0 + n1))) with d1b | d1b
    · go_wp2
      go_ret; exact ⟨anyBool rfl, rfl⟩
    go_wp2
    go_loop [15, 17] (fun t i => ∃ (k : Nat) (x : Int), k ≤ n1 ∧ i = .int .i64 k ∧ t = .int .i64 x) (fun _ i => n1 - (intOf i).toNat)
    case atStart => exact ⟨0, _, Nat.zero_le _, rfl, rfl⟩
    case round =>
      obtain ⟨k1, y1, hk1, rfl, rfl⟩ := hrel
      by_cases hlt1 : k1 < n1
      · obtain ⟨b, off, rfl, hb, hck⟩ := hs1.at (k := k1) (by omega)
        go_wp2
        · go_ret; exact ⟨anyBool rfl, rfl⟩
        · go_ret; exact ⟨anyBool rfl, rfl⟩
        · exact ⟨⟨k1 + 1, _, by omega, by go_num, rfl⟩, by simp [intOf]; omega⟩
      rcases Bool.eq_false_or_eq_true (decide ((1048576 : Int) < n2)) with d2a | d2a
      · go_wp2
        go_ret; exact ⟨anyBool rfl, rfl⟩
      have g2 : (n2 : Int) ≤ 1048576 := by simpa using d2a
      rcases Bool.eq_false_or_eq_true (decide ((1048576 : Int) < wrap64 (y1 + n2))) with d2b | d2b
      · go_wp2
        go_ret; exact ⟨anyBool rfl, rfl⟩
      go_wp2
      go_loop [15, 18] (fun t i => ∃ (k : Nat) (x : Int), k ≤ n2 ∧ i = .int .i64 k ∧ t = .int .i64 x) (fun _ i => n2 - (intOf i).toNat)
      case atStart => exact ⟨0, _, Nat.zero_le _, rfl, rfl⟩
      case round =>
        obtain ⟨k2, y2, hk2, rfl, rfl⟩ := hrel
        by_cases hlt2 : k2 < n2
        · obtain ⟨b, off, rfl, hb, hck⟩ := hs2.at (k := k2) (by omega)
          go_wp2
          · go_ret; exact ⟨anyBool rfl, rfl⟩
          · go_ret; exact ⟨anyBool rfl, rfl⟩
          · exact ⟨⟨k2 + 1, _, by omega, by go_num, rfl⟩, by simp [intOf]; omega⟩
        rcases Bool.eq_false_or_eq_true (decide ((1048576 : Int) < n3)) with d3a | d3a
        · go_wp2
          go_ret; exact ⟨anyBool rfl, rfl⟩
        have g3 : (n3 : Int) ≤ 1048576 := by simpa using d3a
        rcases Bool.eq_false_or_eq_true (decide ((1048576 : Int) < wrap64 (y2 + n3))) with d3b | d3b
        · go_wp2
          go_ret; exact ⟨anyBool rfl, rfl⟩
        go_wp2
        go_loop [15, 19] (fun t i => ∃ (k : Nat) (x : Int), k ≤ n3 ∧ i = .int .i64 k ∧ t = .int .i64 x) (fun _ i => n3 - (intOf i).toNat)
        case atStart => exact ⟨0, _, Nat.zero_le _, rfl, rfl⟩
        case round =>
          obtain ⟨k3, y3, hk3, rfl, rfl⟩ := hrel
          by_cases hlt3 : k3 < n3
          · obtain ⟨b, off, rfl, hb, hck⟩ := hs3.at (k := k3) (by omega)
            go_wp2
            · go_ret; exact ⟨anyBool rfl, rfl⟩
            · go_ret; exact ⟨anyBool rfl, rfl⟩
            · exact ⟨⟨k3 + 1, _, by omega, by go_num, rfl⟩, by simp [intOf]; omega⟩
          go_wp2
          all_goals (go_ret; exact ⟨anyBool rfl, rfl⟩)

end Go.Proofs.Qxb6614335a
