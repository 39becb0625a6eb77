import Derived.Test.Qxb6614248aW4
import Derived.Deep.QuietTactic
import Derived.BigQuiet
import Derived.Deep.RegionWith
namespace Go.Proofs.Qxb6614248a
open Go.RowKit Go.Maps Go.WideMaps

def gradedB (g s : Nat) : Bool := decide (0 < g) || decide (0 < s)

theorem score_any (b g s c : Nat) (a : Option Addr) (w : World) (h : Half w b g (.slice a s c)) :
    Calls Try.prog 13 #[.pointer (some ⟨b, 0, none⟩)] w fun e w' => e = .returned (.bool (decide (0 < s))) ∧ w' = w := by
  obtain ⟨m, ⟨e10, e11, g10, g11⟩, ho⟩ := h
  go_enter Try.func13, Try.ntmps13
  go_wp2
  go_ret
  exact ⟨rfl, rfl⟩

set_option maxHeartbeats 400000 in
theorem graded_any (b g s c : Nat) (a : Option Addr) (w : World) (h : Half w b g (.slice a s c)) :
    Calls Try.prog 7 #[.pointer (some ⟨b, 0, none⟩)] w fun e w' => e = .returned (.bool (gradedB g s)) ∧ w' = w := by
  obtain ⟨m, ⟨e10, e11, g10, g11⟩, ho⟩ := id h
  rcases ho with ⟨rfl, rfl⟩ | ⟨h0, bm, n, D, rfl, hne, hown, hD⟩
  · have hln : ∀ ty (w : World), (Builtin.len_ #[51] ty #[.map none]).run Try.prog w = .ok (.int .i64 0) w := fun ty w => len_nil Try.underlying51 ty
    have hfin : gradedB 0 s = decide (0 < s) := by simp [gradedB]
    have Hf : Hid (gradedB 0 s = decide (0 < s)) := hfin
    clear hfin
    go_enter Try.func7, Try.ntmps7
    go_wp2_with (first
      | (go_at_call 13; refine (score_any b 0 s c a _ h).mono ?_; rintro e w1 ⟨rfl, rfl⟩))
    go_ret
    exact ⟨by rw [Hf.out]; rfl, rfl⟩
  · have hf : gradedB g s = true := by unfold gradedB; simp [h0]
    have Hf : Hid (gradedB g s = true) := hf
    clear hf
    have hD' : (0 : Int) < (Maps.size D : Nat) := by omega
    go_enter Try.func7, Try.ntmps7
    go_wp2_with (first
      | (at_len; refine wpList_len_own _ rfl _ 51 rfl 9 34 Try.underlying51 anyElem bm n D rfl hown ?_)
      | (go_at_call 13; refine (score_any b g s c a _ h).mono ?_; rintro e w1 ⟨rfl, rfl⟩))
    go_ret
    exact ⟨by rw [Hf.out]; rfl, rfl⟩

end Go.Proofs.Qxb6614248a
