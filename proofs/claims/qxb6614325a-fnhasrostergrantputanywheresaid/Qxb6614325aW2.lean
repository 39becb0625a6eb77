import Derived.Test.Qxb6614325aW1
namespace Go.Proofs.Qxb6614325a
open Go.RowKit

/-- zzAddGrantBytes hands back a number; where that is within the limit the row is no longer than 1<<15. -/
def AddOut (l : Nat) (e : Ending) : Prop := ∃ y : Int, e = .returned (.int .i64 y) ∧ (y ≤ 1048576 → l ≤ 32768)
theorem addOut_short {l : Nat} {e : Ending} {y : Int} (he : e = .returned (.int .i64 y)) (h : (l : Int) ≤ 32768) : AddOut l e := ⟨y, he, fun _ => by omega⟩
theorem addOut_past {l : Nat} {e : Ending} {y : Int} (he : e = .returned (.int .i64 y)) (h : 1048576 < y) : AddOut l e := ⟨y, he, fun _ => by omega⟩

set_option maxHeartbeats 1000000 in
set_option maxRecDepth 100000 in
theorem addg_any (t : Int) (a : Option Addr) (l c : Nat) (w : World) (hs : Tees w a l) :
    Calls Try.prog 6 #[.int .i64 t, .slice a l c] w fun e w' => AddOut l e ∧ w' = w := by
  rcases Bool.eq_false_or_eq_true (decide ((1048576 : Int) < wrap64 (t + 24))) with d1 | d1
  · have h1 : (1048576 : Int) < wrap64 (t + 24) := by simpa using d1
    have H1 : Hid ((1048576 : Int) < wrap64 (t + 24)) := h1
    clear h1
    go_enter Try.func6, Try.ntmps6
    go_wp2
    go_ret; exact ⟨addOut_past rfl H1.out, rfl⟩
  by_cases h2 : (32768 : Int) < l
  · go_enter Try.func6, Try.ntmps6
    go_wp2
    go_ret; exact ⟨addOut_past rfl (by omega), rfl⟩
  have d2 : decide ((32768 : Int) < l) = false := decide_eq_false h2
  have h3 : (l : Int) ≤ 32768 := by omega
  rcases Bool.eq_false_or_eq_true (decide ((1048576 : Int) < wrap64 (wrap64 (t + 24) + 48 * l))) with d3 | d3
  · go_enter Try.func6, Try.ntmps6
    go_wp2
    go_ret; exact ⟨addOut_short rfl h3, rfl⟩
  go_enter Try.func6, Try.ntmps6
  go_wp2
  go_loop [0, 5] (fun t i => ∃ (j : Nat) (x : Int), j ≤ l ∧ i = .int .i64 j ∧ t = .int .i64 x) (fun _ i => l - (intOf i).toNat)
  case atStart => exact ⟨0, _, Nat.zero_le _, rfl, rfl⟩
  case round =>
    obtain ⟨j, z, hj, rfl, rfl⟩ := hrel
    by_cases hlt' : j < l
    · obtain ⟨b', off', rfl, hb', s, x0, y0, z0, t0, c0, c1, c2, c3, c4⟩ := hs.at hlt'
      clear c1 c2 c3 d1 d2 d3
      go_wp2
      · go_ret; exact ⟨addOut_short rfl h3, rfl⟩
      · go_ret; exact ⟨addOut_short rfl h3, rfl⟩
      · exact ⟨⟨j + 1, _, by omega, by go_num, rfl⟩, by simp [intOf]; omega⟩
    · clear d1 d2 d3
      go_wp2
      go_ret; exact ⟨addOut_short rfl h3, rfl⟩

/-- zzGrantsFit answers a bool; where it is true the rows are few and short. -/
def FitOut (n : Nat) (rs : List Roll) (e : Ending) : Prop := ∃ r : Bool, e = .returned (.bool r) ∧ (r = true → n ≤ 65536 ∧ ∀ i, i < n → (rs.getD i nilRoll).l ≤ 32768)
theorem fitOut_no {n : Nat} {rs : List Roll} {e : Ending} (he : e = .returned (.bool false)) : FitOut n rs e := ⟨false, he, fun h => by cases h⟩

set_option maxHeartbeats 1000000 in
set_option maxRecDepth 100000 in
theorem fit_any (a : Option Addr) (n cap : Nat) (rs : List Roll) (w : World) (hs : Rolls w a rs) (hn : n = rs.length) :
    Calls Try.prog 5 #[.slice a n cap] w fun e w' => FitOut n rs e ∧ w' = w := by
  have hn1 : n ≤ rs.length := Nat.le_of_eq hn
  clear hn
  by_cases h1 : (65536 : Int) < n
  · go_enter Try.func5, Try.ntmps5
    go_wp2
    go_ret; exact ⟨fitOut_no rfl, rfl⟩
  have d1 : decide ((65536 : Int) < n) = false := decide_eq_false h1
  have h2 : n ≤ 65536 := by omega
  go_enter Try.func5, Try.ntmps5
  go_wp2
  go_loop [3, 4] (fun t i => ∃ (k : Nat) (x : Int), k ≤ n ∧ i = .int .i64 k ∧ t = .int .i64 x ∧ ∀ j, j < k → (rs.getD j nilRoll).l ≤ 32768) (fun _ i => n - (intOf i).toNat)
  case atStart => exact ⟨0, _, Nat.zero_le _, rfl, rfl, fun j hj => absurd hj (Nat.not_lt_zero _)⟩
  case round =>
    obtain ⟨k, y, hk, rfl, rfl, hall⟩ := hrel
    have HA : Hid (∀ j, j < k → (rs.getD j nilRoll).l ≤ 32768) := hall
    clear hall
    by_cases hlt : k < n
    · obtain ⟨b, off, ra, rl, rc, hr, rfl, hb, hck, ht⟩ := hs.at (i := k) (by omega)
      have HR : Hid (rs.getD k nilRoll = ⟨ra, rl, rc⟩) := hr
      clear hr
      go_wp2_with (first
        | (go_at_call 6; refine (addg_any y ra rl rc _ ht).mono ?_; rintro e w1 ⟨⟨z, rfl, hz⟩, rfl⟩))
      · go_ret; exact ⟨fitOut_no rfl, rfl⟩
      · have hz' : rl ≤ 32768 := hz (by assumption)
        refine ⟨⟨k + 1, _, by omega, by go_num, rfl, fun j hj => ?_⟩, by simp [intOf]; omega⟩
        by_cases e : j = k
        · subst e; rw [HR.out]; exact hz'
        · exact HA.out j (by omega)
    · have hkn : n ≤ k := by omega
      go_wp2
      go_ret
      exact ⟨⟨true, rfl, fun _ => ⟨h2, fun i hi => HA.out i (by omega)⟩⟩, rfl⟩

end Go.Proofs.Qxb6614325a
