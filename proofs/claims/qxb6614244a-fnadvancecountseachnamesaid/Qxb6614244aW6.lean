import Derived.Test.Qxb6614244aW5
namespace Go.Proofs.Qxb6614244a
open Go.RowKit Go.Maps Go.WideMaps

theorem u64_nat {c : Nat} (h : c ≤ 4096) : IntKind.u64.wrap (c : Int) = c := by
  have e1 : IntKind.u64.bits = 64 := rfl
  have e2 : IntKind.u64.signed = false := rfl
  simp only [IntKind.wrap, e1, e2, Bool.false_and]
  simp
  omega

set_option maxHeartbeats 1000000 in
set_option maxRecDepth 100000 in
theorem law_big (a : Option Addr) (n cap : Nat) (ss : List ByteArray) (p : ByteArray) (w : World) (hs : Strs w a ss) (hn : n = ss.length) (hb : (1048576 : Int) < p.size ∨ (4096 : Int) < n) :
    Calls Try.prog 3 #[.slice a n cap, .string p] w fun e w' => e = .returned (.bool true) ∧ Below w.heap.size w w' := by
  have Hn : Hid (n = ss.length) := hn
  clear hn
  by_cases h1 : (1048576 : Int) < p.size
  · go_enter Try.func3, Try.ntmps3
    go_wp2_with (first
      | (go_at_call 4; refine (bytes_any a n cap ss p _ hs Hn.out).mono ?_; rintro e w1 ⟨⟨r, rfl⟩, rfl⟩; cases r))
    all_goals (go_ret; exact ⟨rfl, Below.refl _ _⟩)
  · have h2 : (4096 : Int) < n := by omega
    go_enter Try.func3, Try.ntmps3
    go_wp2_with (first
      | (go_at_call 4; refine (bytes_any a n cap ss p _ hs Hn.out).mono ?_; rintro e w1 ⟨⟨r, rfl⟩, rfl⟩; cases r))
    all_goals (go_ret; exact ⟨rfl, Below.refl _ _⟩)

set_option maxHeartbeats 1000000 in
set_option maxRecDepth 100000 in
theorem law_small (a : Option Addr) (n cap : Nat) (ss : List ByteArray) (p : ByteArray) (w : World) (hs : Strs w a ss) (hn : n = ss.length) (hsz : ∀ s ∈ ss, s.size ≤ maxLen) (hp : p.size ≤ maxLen) (h1 : (p.size : Int) ≤ 1048576) (h2 : (n : Int) ≤ 4096) :
    Calls Try.prog 3 #[.slice a n cap, .string p] w fun e w' => e = .returned (.bool true) ∧ Below w.heap.size w w' := by
  have Hn : Hid (n = ss.length) := hn
  clear hn
  have d1 : decide ((1048576 : Int) < p.size) = false := decide_eq_false (by omega)
  have d2 : decide ((4096 : Int) < n) = false := decide_eq_false (by omega)
  go_enter Try.func3, Try.ntmps3
  go_wp2_with (first
    | (go_at_call 4; refine (bytes_any a n cap ss p _ hs Hn.out).mono ?_; rintro e w1 ⟨⟨r, rfl⟩, rfl⟩; cases r)
    | (go_at_call 5; refine (add_any a n cap ss _ _ hs Hn.out (by omega)).mono ?_; rintro e w2 ⟨⟨x, rfl⟩, rfl⟩; rcases Bool.eq_false_or_eq_true (decide ((1048576 : Int) < x)) with hx | hx))
  · go_ret; exact ⟨rfl, Below.refl _ _⟩
  · go_ret; exact ⟨rfl, Below.refl _ _⟩
  refine (clone_any a n cap ss w2 hs Hn.out (by omega)).mono ?_
  rintro e w3 ⟨a', c', rfl, hs3, hb3⟩
  go_wp2_with fail
  refine (new_any w3).mono ?_
  rintro e w4 ⟨rfl, hst4, hb4⟩
  have hz4 := hb4.size
  have hz3 := hb3.size
  generalize hsb : w3.heap.size + 2 = sb at *
  generalize hbm : w3.heap.size + 1 = bm at *
  have hsb' : w3.heap.size < sb := by omega
  have hbm' : w3.heap.size < bm := by omega
  clear hsb hbm hs
  rcases hs3 with h0 | ⟨b, off, rfl, hbl, hc⟩
  · have hn0 : n ≤ 0 := by rw [Hn.out, h0]; exact Nat.le_refl _
    subst h0
    have hcn := counts_nil p
    have hwr := u64_nat (c := cnt p []) (by have := cnt_le p []; simp at this; omega)
    go_wp2_with fail
    refine wp_loop_rounds 1 ?_
    rw [rounds_succ]
    go_wp2_with fail
    refine wp_loop_rounds 1 ?_
    rw [rounds_succ]
    go_wp2_with (first
      | (go_at_call 9; refine (gen_any sb bm 0 _ p _ _ hst4 hp hcn).mono ?_; rintro e w5 ⟨rfl, rfl⟩)
      | (go_at_call 10; refine (count_any _ n _ [] p _ (.inl rfl) Hn.out (by omega)).mono ?_; rintro e w5 ⟨rfl, rfl⟩))
    go_ret
    exact ⟨rfl, hb3.trans (hb4.mono hz3)⟩
  · have hn1 : n ≤ ss.length := Nat.le_of_eq Hn.out
    have hn2 : ss.length ≤ n := Nat.le_of_eq Hn.out.symm
    go_wp2_with fail
    go_loopw [6] (fun i wr => ∃ k : Nat, k ≤ n ∧ i = .int .i64 k ∧ ∃ D, Store wr sb bm k D ∧ Counts D (ss.take k) ∧ Below w3.heap.size w3 wr) (fun i _ => n - (intOf i).toNat)
    case atStart => exact ⟨0, Nat.zero_le _, rfl, _, hst4, by simpa using counts_nil, hb4⟩
    case round =>
      obtain ⟨k, hk, rfl, D, hst, hct, hbw⟩ := hrel
      by_cases hlt : k < n
      · have hck := (hbw.cell (p := ⟨b, off + k, none⟩) hbl).trans (hc k (by omega))
        have hcl := cnt_le (ss[k]?.getD ByteArray.empty) (ss.take k)
        have hcl2 : (ss.take k).length ≤ k := List.length_take_le _ _
        have hsk : (ss[k]?.getD ByteArray.empty).size ≤ maxLen := hsz _ (by rw [List.getElem?_eq_getElem (by omega)]; exact List.getElem_mem _)
        have hat := hct (ss[k]?.getD ByteArray.empty)
        go_wp2_with (first
          | (go_at_call 8; refine (zadv_any sb bm k D (ss[k]?.getD ByteArray.empty) _ _ hst (by unfold maxLen; omega) hsk hat (by omega) (by omega)).mono ?_; rintro e w5 ⟨rfl, hst5, hb5⟩))
        have hts := take_snoc ss k (by omega)
        refine ⟨⟨k + 1, by omega, by go_num, _, hst5, ?_, hbw.trans (hb5.mono (by omega))⟩, by simp [intOf]; omega⟩
        rw [hts]
        exact counts_put hct hst.own.isMap _
      · have ht1 : List.take k ss = ss := List.take_of_length_le (by omega)
        rw [ht1] at hct
        clear ht1
        have hpat := hct p
        have hcl := cnt_le p ss
        have hwr := u64_nat (c := cnt p ss) (by omega)
        go_wp2_with fail
        go_loopw [8] (fun i w7 => ∃ j : Nat, j ≤ n ∧ i = .int .i64 j ∧ Store w7 sb bm k D ∧ Below w3.heap.size w3 w7) (fun i _ => n - (intOf i).toNat)
        case atStart => exact ⟨0, Nat.zero_le _, rfl, hst, hbw⟩
        case round =>
          obtain ⟨j, hj, rfl, hst', hbw'⟩ := hrel
          by_cases hlt' : j < n
          · have hck := (hbw'.cell (p := ⟨b, off + j, none⟩) hbl).trans (hc j (by omega))
            have hsk : (ss[j]?.getD ByteArray.empty).size ≤ maxLen := hsz _ (by rw [List.getElem?_eq_getElem (by omega)]; exact List.getElem_mem _)
            have hcl' := cnt_le (ss[j]?.getD ByteArray.empty) ss
            have hwr' := u64_nat (c := cnt (ss[j]?.getD ByteArray.empty) ss) (by omega)
            have hat := hct (ss[j]?.getD ByteArray.empty)
            have hbq : ∀ q, Below w3.heap.size w3 (wr.drewN q) := fun q => hbw'.trans ⟨rfl, rfl, rfl, Nat.le_refl _, fun _ _ => rfl⟩
            have hstq : ∀ q, Store (wr.drewN q) sb bm k D := fun q => hst'.below ⟨rfl, rfl, rfl, Nat.le_refl _, fun _ _ => rfl⟩
            have hsq : ∀ q, Strs (wr.drewN q) (some ⟨b, off, none⟩) ss := fun q => .inr ⟨b, off, rfl, Nat.lt_of_lt_of_le hbl (hbq q).size, fun i hi => ((hbq q).cell (p := ⟨b, off + i, none⟩) hbl).trans (hc i hi)⟩
            go_wp2
            go_quiet ((first
              | (go_at_call 9; exact Calls.quiet_of_same (gen_any sb bm k D _ _ _ (hstq _) hsk hat))
              | (go_at_call 10; exact Calls.quiet_of_same (count_any _ n _ ss _ _ (hsq _) Hn.out (by omega)))))
            go_wp2
            exact ⟨⟨j + 1, by omega, by go_num, hstq nq, hbq nq⟩, by simp [intOf]; omega⟩
          · go_wp2_with (first
              | (go_at_call 9; refine (gen_any sb bm k D p _ _ hst' hp hpat).mono ?_; rintro e w8 ⟨rfl, rfl⟩)
              | (go_at_call 10; refine (count_any _ n _ ss p _ (.inr ⟨b, off, rfl, Nat.lt_of_lt_of_le hbl hbw'.size, fun i hi => (hbw'.cell (p := ⟨b, off + i, none⟩) hbl).trans (hc i hi)⟩) Hn.out (by omega)).mono ?_; rintro e w8 ⟨rfl, rfl⟩))
            go_ret
            exact ⟨rfl, hb3.trans (hbw'.mono hz3)⟩

theorem law_any (a : Option Addr) (n cap : Nat) (ss : List ByteArray) (p : ByteArray) (w : World) (hs : Strs w a ss) (hn : n = ss.length) (hsz : ∀ s ∈ ss, s.size ≤ maxLen) (hp : p.size ≤ maxLen) :
    Calls Try.prog 3 #[.slice a n cap, .string p] w fun e w' => e = .returned (.bool true) ∧ Below w.heap.size w w' := by
  by_cases h : (1048576 : Int) < p.size ∨ (4096 : Int) < n
  · exact law_big a n cap ss p w hs hn h
  · exact law_small a n cap ss p w hs hn hsz hp (by omega) (by omega)

end Go.Proofs.Qxb6614244a
