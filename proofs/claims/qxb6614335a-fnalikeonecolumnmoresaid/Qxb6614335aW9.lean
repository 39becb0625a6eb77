import Derived.Test.Qxb6614335aW7
import Derived.Test.Qxb6614335aW8
namespace Go.Proofs.Qxb6614335a
open Go.RowKit Go.Maps Go.WideMaps

theorem hide {p : Prop} (h : p) : Hid p := h
theorem later_alike {x : World} {rn rf on og : List ByteArray} {r : Bool} (hr : alikeB rn rf on og = r) (fa : Option Addr) (n fc bm : Nat) (ga : Option Addr) (m gc bo : Nat) (h1 : RowIn x fa n bm rn rf) (h2 : RowIn x ga m bo on og) :
    ∀ z : Later x, Calls Try.prog 14 #[rowV (.slice fa n fc) (.map (some bm)), rowV (.slice ga m gc) (.map (some bo))] z.w fun e w'' => e = .returned (.bool r) ∧ ∃ z' : Later x, w'' = z'.w := fun z =>
  (alike_is hr fa n fc bm ga m gc bo z.w (h1.below z.below) (h2.below z.below)).mono fun _ w'' ⟨he, hb⟩ => ⟨he, ⟨w'', z.below.trans (hb.mono z.below.size)⟩, rfl⟩
theorem more_sizes {l : List ByteArray} (h : ∀ s ∈ l, s.size ≤ maxLen) {c : ByteArray} (hc : c.size ≤ maxLen) : ∀ s ∈ l ++ [c], s.size ≤ maxLen := fun s hs => by
  rcases List.mem_append.1 hs with h1 | h1
  · exact h s h1
  · rw [List.mem_singleton] at h1; rw [h1]; exact hc

set_option maxHeartbeats 4000000 in
set_option maxRecDepth 100000 in
theorem more_in (a0 : Option Addr) (n cap0 : Nat) (rn : List ByteArray) (a1 : Option Addr) (cap1 : Nat) (rf : List ByteArray) (a2 : Option Addr) (m cap2 : Nat) (on : List ByteArray) (a3 : Option Addr) (cap3 : Nat) (og : List ByteArray) (c v u : ByteArray) (w : World)
    (hs0 : Strs w a0 rn) (hn0 : n = rn.length) (hs1 : Strs w a1 rf) (hn1 : n = rf.length) (hs2 : Strs w a2 on) (hn2 : m = on.length) (hs3 : Strs w a3 og) (hn3 : m = og.length)
    (hz0 : ∀ s ∈ rn, s.size ≤ maxLen) (hz2 : ∀ s ∈ on, s.size ≤ maxLen) (hzc : c.size ≤ maxLen) (g0 : (n : Int) ≤ 65536) (g1 : (m : Int) ≤ 65536) (g2 : (c.size : Int) ≤ 65536) (g3 : (v.size : Int) ≤ 65536) (g4 : (u.size : Int) ≤ 65536) :
    Calls Try.prog 3 #[.slice a0 n cap0, .slice a1 n cap1, .slice a2 m cap2, .slice a3 m cap3, .string c, .string v, .string u] w fun e w' => e = .returned (.bool true) ∧ Below w.heap.size w w' := by
  have H0 : Hid (n = rn.length) := hn0
  have H1 : Hid (n = rf.length) := hn1
  have H2 : Hid (m = on.length) := hn2
  have H3 : Hid (m = og.length) := hn3
  have HZ0 : Hid (∀ s ∈ rn, s.size ≤ maxLen) := hz0
  have HZ2 : Hid (∀ s ∈ on, s.size ≤ maxLen) := hz2
  clear hn0 hn1 hn2 hn3 hz0 hz2
  have d0 : decide ((65536 : Int) < n) = false := decide_eq_false (by omega)
  have d1 : decide ((65536 : Int) < m) = false := decide_eq_false (by omega)
  have d2 : decide ((65536 : Int) < c.size) = false := decide_eq_false (by omega)
  have d3 : decide ((65536 : Int) < v.size) = false := decide_eq_false (by omega)
  have d4 : decide ((65536 : Int) < u.size) = false := decide_eq_false (by omega)
  go_enter Try.func3, Try.ntmps3
  go_wp2_with (first
    | (go_at_call 5; refine (bytes4 a0 n cap0 rn a1 n cap1 rf a2 m cap2 on a3 m cap3 og c v u _ hs0 H0.out hs1 H1.out hs2 H2.out hs3 H3.out).mono ?_; rintro e w1 ⟨⟨r, rfl⟩, rfl⟩; cases r)
    | (go_at_call_of 6 (a0); refine (adds_any _ a0 n cap0 rn _ hs0 H0.out (by omega)).mono ?_; rintro e w1 ⟨⟨z0, rfl⟩, rfl⟩)
    | (go_at_call_of 6 (a1); refine (adds_any _ a1 n cap1 rf _ hs1 H1.out (by omega)).mono ?_; rintro e w1 ⟨⟨z1, rfl⟩, rfl⟩)
    | (go_at_call_of 6 (a2); refine (adds_any _ a2 m cap2 on _ hs2 H2.out (by omega)).mono ?_; rintro e w1 ⟨⟨z2, rfl⟩, rfl⟩)
    | (go_at_call_of 6 (a3); refine (adds_any _ a3 m cap3 og _ hs3 H3.out (by omega)).mono ?_; rintro e w1 ⟨⟨z3, rfl⟩, rfl⟩)
    | (go_at_call_of 7 (c); refine (add1_any _ c _).mono ?_; rintro e w1 ⟨⟨z4, rfl⟩, rfl⟩)
    | (go_at_call_of 7 (v); refine (add1_any _ v _).mono ?_; rintro e w1 ⟨⟨z5, rfl⟩, rfl⟩)
    | (go_at_call_of 7 (u); refine (add1_any _ u _).mono ?_; rintro e w1 ⟨⟨z6, rfl⟩, rfl⟩; rcases Bool.eq_false_or_eq_true (decide ((1048576 : Int) < z6)) with dz | dz)
    | (go_at_call_of 8 (a0); refine (distinct_any a0 n cap0 rn _ hs0 H0.out (by omega) HZ0.out).mono ?_; rintro e wA ⟨r, rfl, hnd, hbA⟩; have HNA : Hid (r = true → rn.Nodup) := hnd; clear hnd; cases r)
    | (go_at_call_of 8 (a2); refine (distinct_any a2 m cap2 on _ (hs2.below hbA) H2.out (by omega) HZ2.out).mono ?_; rintro e wB ⟨r, rfl, hnd, hbB⟩; have HNB : Hid (r = true → on.Nodup) := hnd; clear hnd; cases r)
    | (go_at_call_of 9 (a0); refine (holds_any a0 n cap0 rn c _ ((hs0.below hbA).below hbB) H0.out (by omega)).mono ?_; rintro e wC ⟨⟨r, rfl, hno⟩, rfl⟩; have HHA : Hid (r = false → c ∉ rn) := hno; clear hno; cases r)
    | (go_at_call_of 9 (a2); refine (holds_any a2 m cap2 on c _ ((hs2.below hbA).below hbB) H2.out (by omega)).mono ?_; rintro e wC ⟨⟨r, rfl, hno⟩, rfl⟩; have HHB : Hid (r = false → c ∉ on) := hno; clear hno; cases r))
  any_goals (go_ret; first | exact ⟨rfl, Below.refl _ _⟩ | exact ⟨rfl, hbA⟩ | exact ⟨rfl, hbA.trans (hbB.mono hbA.size)⟩)
  have HR : Hid rn.Nodup := HNA.out trivial
  have HO : Hid on.Nodup := HNB.out trivial
  have HCR : Hid (c ∉ rn) := HHA.out trivial
  have HCO : Hid (c ∉ on) := HHB.out trivial
  have HLR : Hid (rn.length = rf.length) := H0.out.symm.trans H1.out
  have HLO : Hid (on.length = og.length) := H2.out.symm.trans H3.out
  have S0 := (hs0.below hbA).below hbB
  have S1 := (hs1.below hbA).below hbB
  have S2 := (hs2.below hbA).below hbB
  have S3 := (hs3.below hbA).below hbB
  have hw := hbA.trans (hbB.mono hbA.size)
  clear HNA HNB HHA HHB hs0 hs1 hs2 hs3 hbA hbB
  -- rFields = clone(rFields)
  refine (clone_any a1 n cap1 rf wC S1 H1.out (by omega)).mono ?_
  rintro e w3 ⟨fa, fc, rfl, hfr, hb⟩
  have F := hfr.strs
  clear hfr S1
  replace S0 := S0.below hb
  replace S2 := S2.below hb
  replace S3 := S3.below hb
  replace hw := hw.trans (hb.mono hw.size)
  clear hb
  go_wp2_with fail
  -- oFields = clone(oFields)
  refine (clone_any a3 m cap3 og w3 S3 H3.out (by omega)).mono ?_
  rintro e w4 ⟨ga, gc, rfl, hfr, hb⟩
  have G := hfr.strs
  clear hfr S3
  replace S0 := S0.below hb
  replace S2 := S2.below hb
  replace F := F.below hb
  replace hw := hw.trans (hb.mono hw.size)
  clear hb
  go_wp2_with fail
  -- r
  refine (cols_any a0 n cap0 rn w4 S0 H0.out (by omega) HZ0.out HR.out).mono ?_
  rintro e w5 ⟨br, Dr, rfl, hown, hcols, hb⟩
  replace S0 := S0.below hb
  replace S2 := S2.below hb
  replace F := F.below hb
  replace G := G.below hb
  replace hw := hw.trans (hb.mono hw.size)
  have R : RowIn w5 fa n br rn rf := ⟨F, H1.out, HLR.out, HR.out, n, Dr, hown, hcols⟩
  clear hb hown hcols
  go_wp2_with fail
  refine (row_any fa n fc br w5).mono ?_
  rintro e w6 ⟨rfl, hb⟩
  replace S0 := S0.below hb
  replace S2 := S2.below hb
  replace F := F.below hb
  replace G := G.below hb
  replace R := R.below hb
  replace hw := hw.trans (hb.mono hw.size)
  clear hb
  go_wp2_with fail
  have hb := below_alloc w6 (.cells #[.string { data := #[] }, .int .i64 0, .string { data := #[] }, .string { data := #[] }, .pointer none, .int .i32 0, .slice none 0 0, .slice fa n fc, .map (some br), .map none, .string { data := #[] }] 35)
  have B1 := rowAt_new w6 (.slice fa n fc) (.map (some br)) 35
  have L1 : w6.heap.size < (w6.alloc (.cells #[.string { data := #[] }, .int .i64 0, .string { data := #[] }, .string { data := #[] }, .pointer none, .int .i32 0, .slice none 0 0, .slice fa n fc, .map (some br), .map none, .string { data := #[] }] 35)).heap.size := by simp
  replace S0 := S0.below hb
  replace S2 := S2.below hb
  replace F := F.below hb
  replace G := G.below hb
  replace R := R.below hb
  replace hw := hw.trans (hb.mono hw.size)
  generalize hW1 : w6.alloc (.cells #[.string { data := #[] }, .int .i64 0, .string { data := #[] }, .string { data := #[] }, .pointer none, .int .i32 0, .slice none 0 0, .slice fa n fc, .map (some br), .map none, .string { data := #[] }] 35) = x1 at *
  clear hb hW1
  refine (cols_any a2 m cap2 on x1 S2 H2.out (by omega) HZ2.out HO.out).mono ?_
  rintro e w7 ⟨bo, Do, rfl, hown, hcols, hb⟩
  replace S0 := S0.below hb
  replace S2 := S2.below hb
  replace F := F.below hb
  replace G := G.below hb
  replace R := R.below hb
  replace B1 := B1.below hb
  replace hw := hw.trans (hb.mono hw.size)
  have O : RowIn w7 ga m bo on og := ⟨G, H3.out, HLO.out, HO.out, m, Do, hown, hcols⟩
  clear hb hown hcols
  go_wp2_with fail
  refine (row_any ga m gc bo w7).mono ?_
  rintro e w8 ⟨rfl, hb⟩
  replace S0 := S0.below hb
  replace S2 := S2.below hb
  replace F := F.below hb
  replace G := G.below hb
  replace R := R.below hb
  replace O := O.below hb
  replace B1 := B1.below hb
  replace hw := hw.trans (hb.mono hw.size)
  clear hb
  go_wp2_with fail
  have hb := below_alloc w8 (.cells #[.string { data := #[] }, .int .i64 0, .string { data := #[] }, .string { data := #[] }, .pointer none, .int .i32 0, .slice none 0 0, .slice ga m gc, .map (some bo), .map none, .string { data := #[] }] 35)
  have B2 := rowAt_new w8 (.slice ga m gc) (.map (some bo)) 35
  have L2 : w8.heap.size < (w8.alloc (.cells #[.string { data := #[] }, .int .i64 0, .string { data := #[] }, .string { data := #[] }, .pointer none, .int .i32 0, .slice none 0 0, .slice ga m gc, .map (some bo), .map none, .string { data := #[] }] 35)).heap.size := by simp
  replace S0 := S0.below hb
  replace S2 := S2.below hb
  replace F := F.below hb
  replace G := G.below hb
  replace R := R.below hb
  replace O := O.below hb
  replace B1 := B1.below hb
  replace hw := hw.trans (hb.mono hw.size)
  generalize hW2 : w8.alloc (.cells #[.string { data := #[] }, .int .i64 0, .string { data := #[] }, .string { data := #[] }, .pointer none, .int .i32 0, .slice none 0 0, .slice ga m gc, .map (some bo), .map none, .string { data := #[] }] 35) = x2 at *
  clear hb hW2
  -- rMore
  refine (with_any fa n fc rf v x2 F H1.out (by omega)).mono ?_
  rintro e w9 ⟨xa, xc, rfl, hfr, hb⟩
  have X := hfr.strs
  clear hfr
  replace S0 := S0.below hb
  replace S2 := S2.below hb
  replace F := F.below hb
  replace G := G.below hb
  replace R := R.below hb
  replace O := O.below hb
  replace B1 := B1.below hb
  replace B2 := B2.below hb
  replace hw := hw.trans (hb.mono hw.size)
  clear hb
  go_wp2_with fail
  refine (with_any a0 n cap0 rn c w9 S0 H0.out (by omega)).mono ?_
  rintro e w10 ⟨ya, yc, rfl, hfr, hb⟩
  have Y := hfr.strs
  clear hfr
  replace S0 := S0.below hb
  replace S2 := S2.below hb
  replace F := F.below hb
  replace G := G.below hb
  replace R := R.below hb
  replace O := O.below hb
  replace B1 := B1.below hb
  replace B2 := B2.below hb
  replace X := X.below hb
  replace hw := hw.trans (hb.mono hw.size)
  clear hb
  have HN1 : Hid (n + 1 = (rn ++ [c]).length) := by show n + 1 = _; rw [List.length_append, ← H0.out]; rfl
  have HN2 : Hid (n + 1 = (rf ++ [v]).length) := by show n + 1 = _; rw [List.length_append, ← H1.out]; rfl
  go_wp2_with fail
  refine (cols_any ya (n + 1) yc (rn ++ [c]) w10 Y HN1.out (by omega) (more_sizes HZ0.out hzc) (nodup_more HR.out HCR.out)).mono ?_
  rintro e w11 ⟨bR, DR, rfl, hown, hcols, hb⟩
  replace S2 := S2.below hb
  replace G := G.below hb
  replace R := R.below hb
  replace O := O.below hb
  replace B1 := B1.below hb
  replace B2 := B2.below hb
  replace X := X.below hb
  replace hw := hw.trans (hb.mono hw.size)
  have RM : RowIn w11 xa (n + 1) bR (rn ++ [c]) (rf ++ [v]) := ⟨X, HN2.out, HN1.out.symm.trans HN2.out, nodup_more HR.out HCR.out, n + 1, DR, hown, hcols⟩
  clear hb hown hcols X Y S0 F
  go_wp2_with fail
  refine (row_any xa (n + 1) xc bR w11).mono ?_
  rintro e w12 ⟨rfl, hb⟩
  replace S2 := S2.below hb
  replace G := G.below hb
  replace R := R.below hb
  replace O := O.below hb
  replace B1 := B1.below hb
  replace B2 := B2.below hb
  replace RM := RM.below hb
  replace hw := hw.trans (hb.mono hw.size)
  clear hb
  go_wp2_with fail
  have hb := below_alloc w12 (.cells #[.string { data := #[] }, .int .i64 0, .string { data := #[] }, .string { data := #[] }, .pointer none, .int .i32 0, .slice none 0 0, .slice xa (n + 1) xc, .map (some bR), .map none, .string { data := #[] }] 35)
  have B3 := rowAt_new w12 (.slice xa (n + 1) xc) (.map (some bR)) 35
  have L3 : w12.heap.size < (w12.alloc (.cells #[.string { data := #[] }, .int .i64 0, .string { data := #[] }, .string { data := #[] }, .pointer none, .int .i32 0, .slice none 0 0, .slice xa (n + 1) xc, .map (some bR), .map none, .string { data := #[] }] 35)).heap.size := by simp
  replace S2 := S2.below hb
  replace G := G.below hb
  replace R := R.below hb
  replace O := O.below hb
  replace B1 := B1.below hb
  replace B2 := B2.below hb
  replace RM := RM.below hb
  replace hw := hw.trans (hb.mono hw.size)
  generalize hW3 : w12.alloc (.cells #[.string { data := #[] }, .int .i64 0, .string { data := #[] }, .string { data := #[] }, .pointer none, .int .i32 0, .slice none 0 0, .slice xa (n + 1) xc, .map (some bR), .map none, .string { data := #[] }] 35) = x3 at *
  clear hb hW3
  -- oMore
  refine (with_any ga m gc og u x3 G H3.out (by omega)).mono ?_
  rintro e w13 ⟨ua, uc, rfl, hfr, hb⟩
  have X := hfr.strs
  clear hfr
  replace S2 := S2.below hb
  replace R := R.below hb
  replace O := O.below hb
  replace B1 := B1.below hb
  replace B2 := B2.below hb
  replace B3 := B3.below hb
  replace RM := RM.below hb
  replace hw := hw.trans (hb.mono hw.size)
  clear hb G
  go_wp2_with fail
  refine (with_any a2 m cap2 on c w13 S2 H2.out (by omega)).mono ?_
  rintro e w14 ⟨va, vc, rfl, hfr, hb⟩
  have Y := hfr.strs
  clear hfr
  replace R := R.below hb
  replace O := O.below hb
  replace B1 := B1.below hb
  replace B2 := B2.below hb
  replace B3 := B3.below hb
  replace RM := RM.below hb
  replace X := X.below hb
  replace hw := hw.trans (hb.mono hw.size)
  clear hb S2
  have HM1 : Hid (m + 1 = (on ++ [c]).length) := by show m + 1 = _; rw [List.length_append, ← H2.out]; rfl
  have HM2 : Hid (m + 1 = (og ++ [u]).length) := by show m + 1 = _; rw [List.length_append, ← H3.out]; rfl
  go_wp2_with fail
  refine (cols_any va (m + 1) vc (on ++ [c]) w14 Y HM1.out (by omega) (more_sizes HZ2.out hzc) (nodup_more HO.out HCO.out)).mono ?_
  rintro e w15 ⟨bO, DO, rfl, hown, hcols, hb⟩
  replace R := R.below hb
  replace O := O.below hb
  replace B1 := B1.below hb
  replace B2 := B2.below hb
  replace B3 := B3.below hb
  replace RM := RM.below hb
  replace X := X.below hb
  replace hw := hw.trans (hb.mono hw.size)
  have OM : RowIn w15 ua (m + 1) bO (on ++ [c]) (og ++ [u]) := ⟨X, HM2.out, HM1.out.symm.trans HM2.out, nodup_more HO.out HCO.out, m + 1, DO, hown, hcols⟩
  clear hb hown hcols X Y
  go_wp2_with fail
  refine (row_any ua (m + 1) uc bO w15).mono ?_
  rintro e w16 ⟨rfl, hb⟩
  replace R := R.below hb
  replace O := O.below hb
  replace B1 := B1.below hb
  replace B2 := B2.below hb
  replace B3 := B3.below hb
  replace RM := RM.below hb
  replace OM := OM.below hb
  replace hw := hw.trans (hb.mono hw.size)
  clear hb
  have hA := alikeB_more (v := v) (u := u) HLR.out HLO.out HCR.out HCO.out
  have hC := alikeB_more (v := u) (u := v) HLO.out HLR.out HCO.out HCR.out
  rw [show (u.toList == v.toList) = (v.toList == u.toList) from Bool.beq_comm] at hC
  have hE := alikeB_self (rn ++ [c]) (rf ++ [v])
  have hF := alikeB_self (on ++ [c]) (og ++ [u])
  rcases Bool.eq_false_or_eq_true (v.toList == u.toList) with hsame | hsame <;> rcases Bool.eq_false_or_eq_true (alikeB rn rf on og) with hB | hB <;> rcases Bool.eq_false_or_eq_true (alikeB on og rn rf) with hD | hD <;>
    rw [hB, hsame] at hA <;> rw [hD, hsame] at hC <;> simp only [Bool.and_true, Bool.and_false] at hA hC
  all_goals
    have HA : Hid (alikeB (rn ++ [c]) (rf ++ [v]) (on ++ [c]) (og ++ [u]) = _) := hA
    have HB : Hid (alikeB rn rf on og = _) := hB
    have HC : Hid (alikeB (on ++ [c]) (og ++ [u]) (rn ++ [c]) (rf ++ [v]) = _) := hC
    have HD : Hid (alikeB on og rn rf = _) := hD
    have HE : Hid (alikeB (rn ++ [c]) (rf ++ [v]) (rn ++ [c]) (rf ++ [v]) = _) := hE
    have HF : Hid (alikeB (on ++ [c]) (og ++ [u]) (on ++ [c]) (og ++ [u]) = _) := hF
    clear hA hB hC hD hE hF
    go_wp2_with fail
    have hb := below_alloc w16 (.cells #[.string { data := #[] }, .int .i64 0, .string { data := #[] }, .string { data := #[] }, .pointer none, .int .i32 0, .slice none 0 0, .slice ua (m + 1) uc, .map (some bO), .map none, .string { data := #[] }] 35)
    have B4 := rowAt_new w16 (.slice ua (m + 1) uc) (.map (some bO)) 35
    have L4 : w16.heap.size < (w16.alloc (.cells #[.string { data := #[] }, .int .i64 0, .string { data := #[] }, .string { data := #[] }, .pointer none, .int .i32 0, .slice none 0 0, .slice ua (m + 1) uc, .map (some bO), .map none, .string { data := #[] }] 35)).heap.size := by simp
    replace R := R.below hb
    replace O := O.below hb
    replace B1 := B1.below hb
    replace B2 := B2.below hb
    replace B3 := B3.below hb
    replace RM := RM.below hb
    replace OM := OM.below hb
    replace hw := hw.trans (hb.mono hw.size)
    generalize hW4 : w16.alloc (.cells #[.string { data := #[] }, .int .i64 0, .string { data := #[] }, .string { data := #[] }, .pointer none, .int .i32 0, .slice none 0 0, .slice ua (m + 1) uc, .map (some bO), .map none, .string { data := #[] }] 35) = x4 at *
    clear hb hW4
    have q1_0 := fun z : Later x4 => (B1.below z.below).c0
    have q1_1 := fun z : Later x4 => (B1.below z.below).c1
    have q1_2 := fun z : Later x4 => (B1.below z.below).c2
    have q1_3 := fun z : Later x4 => (B1.below z.below).c3
    have q1_4 := fun z : Later x4 => (B1.below z.below).c4
    have q1_5 := fun z : Later x4 => (B1.below z.below).c5
    have q1_6 := fun z : Later x4 => (B1.below z.below).c6
    have q1_7 := fun z : Later x4 => (B1.below z.below).c7
    have q1_8 := fun z : Later x4 => (B1.below z.below).c8
    have q1_9 := fun z : Later x4 => (B1.below z.below).c9
    have q1_10 := fun z : Later x4 => (B1.below z.below).c10
    have q2_0 := fun z : Later x4 => (B2.below z.below).c0
    have q2_1 := fun z : Later x4 => (B2.below z.below).c1
    have q2_2 := fun z : Later x4 => (B2.below z.below).c2
    have q2_3 := fun z : Later x4 => (B2.below z.below).c3
    have q2_4 := fun z : Later x4 => (B2.below z.below).c4
    have q2_5 := fun z : Later x4 => (B2.below z.below).c5
    have q2_6 := fun z : Later x4 => (B2.below z.below).c6
    have q2_7 := fun z : Later x4 => (B2.below z.below).c7
    have q2_8 := fun z : Later x4 => (B2.below z.below).c8
    have q2_9 := fun z : Later x4 => (B2.below z.below).c9
    have q2_10 := fun z : Later x4 => (B2.below z.below).c10
    have q3_0 := fun z : Later x4 => (B3.below z.below).c0
    have q3_1 := fun z : Later x4 => (B3.below z.below).c1
    have q3_2 := fun z : Later x4 => (B3.below z.below).c2
    have q3_3 := fun z : Later x4 => (B3.below z.below).c3
    have q3_4 := fun z : Later x4 => (B3.below z.below).c4
    have q3_5 := fun z : Later x4 => (B3.below z.below).c5
    have q3_6 := fun z : Later x4 => (B3.below z.below).c6
    have q3_7 := fun z : Later x4 => (B3.below z.below).c7
    have q3_8 := fun z : Later x4 => (B3.below z.below).c8
    have q3_9 := fun z : Later x4 => (B3.below z.below).c9
    have q3_10 := fun z : Later x4 => (B3.below z.below).c10
    have q4_0 := fun z : Later x4 => (B4.below z.below).c0
    have q4_1 := fun z : Later x4 => (B4.below z.below).c1
    have q4_2 := fun z : Later x4 => (B4.below z.below).c2
    have q4_3 := fun z : Later x4 => (B4.below z.below).c3
    have q4_4 := fun z : Later x4 => (B4.below z.below).c4
    have q4_5 := fun z : Later x4 => (B4.below z.below).c5
    have q4_6 := fun z : Later x4 => (B4.below z.below).c6
    have q4_7 := fun z : Later x4 => (B4.below z.below).c7
    have q4_8 := fun z : Later x4 => (B4.below z.below).c8
    have q4_9 := fun z : Later x4 => (B4.below z.below).c9
    have q4_10 := fun z : Later x4 => (B4.below z.below).c10
    have PA := hide (later_alike HA.out xa (n + 1) xc bR ua (m + 1) uc bO RM OM)
    have PB := hide (later_alike HB.out fa n fc br ga m gc bo R O)
    have PC := hide (later_alike HC.out ua (m + 1) uc bO xa (n + 1) xc bR OM RM)
    have PD := hide (later_alike HD.out ga m gc bo fa n fc br O R)
    have PE := hide (later_alike HE.out xa (n + 1) xc bR xa (n + 1) xc bR RM RM)
    have PF := hide (later_alike HF.out ua (m + 1) uc bO ua (m + 1) uc bO OM OM)
    have hnz : Nonempty (Later x4) := ⟨⟨x4, Below.refl _ _⟩⟩
    clear R O RM OM B1 B2 B3 B4
    refine wp_region_later (by kernel_rfl) (by kernel_rfl) ?_
    repeat (go_big_quiet_step (fail))
    go_big_quiet_step (exact PA.out _)
    repeat (go_big_quiet_step (fail))
    go_big_quiet_step (exact PB.out _)
    repeat (go_big_quiet_step (fail))
    go_big_quiet_step (exact PC.out _)
    repeat (go_big_quiet_step (fail))
    go_big_quiet_step (exact PD.out _)
    repeat (go_big_quiet_step (fail))
    go_big_quiet_step (exact PE.out _)
    repeat (go_big_quiet_step (fail))
    go_big_quiet_step (exact PF.out _)
    repeat (go_big_quiet_step (fail))
    refine wpQuiet_nil ?_
    intro wz hwz
    obtain ⟨z, hz⟩ := hwz
    subst hz
    have hfin : Below w1.heap.size w1 z.w := hw.trans (z.below.mono hw.size)
    go_wp2
    go_ret
    exact ⟨rfl, hfin⟩

end Go.Proofs.Qxb6614335a
