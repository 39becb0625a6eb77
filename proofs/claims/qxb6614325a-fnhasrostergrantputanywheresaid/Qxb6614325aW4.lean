import Derived.Test.Qxb6614325aW3
namespace Go.Proofs.Qxb6614325a
open Go.RowKit

def zeroGrant : Array Value := #[.string ByteArray.empty, .int .u64 0, .int .i64 0, .pointer none, .int .i64 0, .pointer none, .string ByteArray.empty, .pointer none, .pointer none, .slice none 0 0, .int .i64 0, .slice none 0 0]
theorem Try.info45 : (Try.prog.info? 45).map (fun i => (i.zero, i.size, i.bytes)) = some (some (.agg zeroGrant), 12, 144) := by kernel_rfl

theorem run_make_grants (n : Nat) (hn : n ≤ 65537) (w : World) :
    (Instr.makeSlice 32 (.int .i64 (n : Int)) (.int .i64 (n : Int))).run Try.prog w = .ok (.slice (some ⟨w.heap.size, 0, none⟩) n n) (w.alloc (.cells (madeCells zeroGrant (n * 12)) 45)) := by
  obtain ⟨i, hi, hzz⟩ := Option.map_eq_some_iff.1 Try.info45
  simp only [Prod.mk.injEq] at hzz
  obtain ⟨hz, hs, hb⟩ := hzz
  have hr := run_make (P := Try.prog) w 32 45 i _ Try.underlying32 hi hz .i64 .i64 n n (by omega) (Int.le_refl _) (by rw [hb]; omega) (by omega)
  simpa [hs, Value.cells] using hr

/-- The i-th grant's list of grantees is nil just where the i-th row is. -/
def NilAlike (w : World) (bg : Nat) (rs : List Roll) (i : Nat) : Prop :=
  ∃ a' l' c', w.cell? ⟨bg, i * 12 + 11, none⟩ = some (.slice a' l' c') ∧ a'.isNone = (rs.getD i nilRoll).a.isNone

/-- The grants, twelve cells each, from the head of block bg on. -/
def Grants (w : World) (ga : Option Addr) (rs : List Roll) : Prop :=
  rs = [] ∨ ∃ bg, ga = some ⟨bg, 0, none⟩ ∧ Row w bg (rs.length * 12) ∧ ∀ i, i < rs.length → NilAlike w bg rs i

/-- A plan at block b whose grants are those. -/
def Made (w : World) (b : Nat) (rs : List Roll) : Prop := ∃ ga gc, w.cell? ⟨b, 4, none⟩ = some (.slice ga rs.length gc) ∧ Grants w ga rs

def PlanOut (w w' : World) (rs : List Roll) (e : Ending) : Prop :=
  ∃ b, e = .returned (.pointer (some ⟨b, 0, none⟩)) ∧ Made w' b rs ∧ Below w.heap.size w w'

theorem NilAlike.below {w w' : World} {bg n : Nat} {rs : List Roll} {i : Nat} (h : NilAlike w bg rs i) (hr : Row w bg n) (hb : Below w.heap.size w w') : NilAlike w' bg rs i := by
  obtain ⟨a', l', c', h1, h2⟩ := h
  exact ⟨a', l', c', (hb.cell (p := ⟨bg, i * 12 + 11, none⟩) hr.lt).trans h1, h2⟩

theorem Grants.below {w w' : World} {ga : Option Addr} {rs : List Roll} (h : Grants w ga rs) (hb : Below w.heap.size w w') : Grants w' ga rs := by
  rcases h with h | ⟨bg, h1, h2, h3⟩
  · exact .inl h
  · exact .inr ⟨bg, h1, h2.below hb, fun i hi => (h3 i hi).below h2 hb⟩

set_option maxHeartbeats 1000000 in
set_option maxRecDepth 100000 in
theorem planOf_any (a : Option Addr) (n cap : Nat) (rs : List Roll) (w : World) (hs : Rolls w a rs) (hn : n = rs.length) (hl : n ≤ 65537) (hall : ∀ i, i < n → (rs.getD i nilRoll).l ≤ 32768) :
    Calls Try.prog 7 #[.slice a n cap] w fun e w' => PlanOut w w' rs e := by
  have q22 : ∀ (w : World) (a : Option Addr) (n c : Nat), (binOp .neq 22 (.slice a n c) (.slice none 0 0)).run Try.prog w = .ok (.bool (!a.isNone)) w := fun w a n c => run_neq_slice_nil_any w _ _ _ _ _ _ _ Try.underlying22
  cases a with
  | none =>
    have h0 : rs = [] := by rcases hs with h | ⟨b, off, h, _⟩; exact h; cases h
    subst h0
    clear hn
    go_enter Try.func7, Try.ntmps7
    go_wp2
    go_ret
    refine ⟨_, rfl, ⟨none, 0, ?_, .inl rfl⟩, (Below.refl _ _).alloc (Nat.le_refl _) _⟩
    rw [World.cell?_alloc_new]; rfl
  | some x =>
    have hn1 : n ≤ rs.length := Nat.le_of_eq hn
    have Hn : Hid (n = rs.length) := hn
    have Hall : Hid (∀ i, i < n → (rs.getD i nilRoll).l ≤ 32768) := hall
    clear hall hn
    have hmk := run_make_grants n hl
    go_enter Try.func7, Try.ntmps7
    go_wp2
    go_loopw [4] (fun i wr => ∃ k : Nat, k ≤ n ∧ i = .int .i64 k ∧ Row wr w.heap.size (n * 12) ∧ Below w.heap.size w wr ∧ ∀ i, i < k → NilAlike wr w.heap.size rs i) (fun i _ => n - (intOf i).toNat)
    case atStart => exact ⟨0, Nat.zero_le _, rfl, Row.made _ _ _ _, (Below.refl _ _).alloc (Nat.le_refl _) _, fun i hi => absurd hi (Nat.not_lt_zero _)⟩
    case round =>
      obtain ⟨k, hk, rfl, hrow, hbw, hdone⟩ := hrel
      by_cases hlt : k < n
      · obtain ⟨b, off, ra, rl, rc, hr, hx, hb, hck, ht⟩ := (hs.below hbw).at (i := k) (by omega)
        obtain rfl := Option.some.inj hx
        clear hx
        have hrl := Hall.out k hlt
        rw [hr] at hrl
        have HR : Hid (rs.getD k nilRoll = ⟨ra, rl, rc⟩) := hr
        clear hr
        go_wp2_with (first
          | (go_at_call 9; refine (tees_any ra rl rc _ ht hrl).mono ?_; rintro e w1 ⟨a', l', c', rfl, hnil, hb1⟩; have hrow1 := hrow.below hb1; obtain ⟨v, hv⟩ := hrow1.cell (i := k * 12 + 11) (by omega); have fv := hrow1.frozen (k * 12 + 11)))
        have hz := hbw.size
        refine ⟨⟨k + 1, by omega, by go_num, hrow1.setCell _ _, (hbw.trans (hb1.mono hz)).setCell (Nat.le_refl _) _, fun i hi => ?_⟩, by simp [intOf]; omega⟩
        by_cases e : i = k
        · subst e
          exact ⟨a', l', c', World.cell?_setCell_same w1 ⟨w.heap.size, i * 12 + 11, none⟩ _ hv, by rw [HR.out]; exact hnil⟩
        · obtain ⟨a2, l2, c2, h1, h2⟩ := (hdone i (by omega)).below hrow hb1
          exact ⟨a2, l2, c2, (World.cell?_setCell_other w1 ⟨w.heap.size, k * 12 + 11, none⟩ ⟨w.heap.size, i * 12 + 11, none⟩ _ (by simp)).trans h1, h2⟩
      · have hkn : n ≤ k := by omega
        go_wp2
        go_ret
        refine ⟨_, rfl, ⟨_, _, by rw [World.cell?_alloc_new, ← Hn.out]; rfl, ?_⟩, hbw.alloc hbw.size _⟩
        refine Grants.below (.inr ⟨w.heap.size, rfl, by rw [← Hn.out]; exact hrow, fun i hi => hdone i (by rw [← Hn.out] at hi; omega)⟩) ((Below.refl _ _).alloc (Nat.le_refl _) _)

end Go.Proofs.Qxb6614325a
