import Derived.Test.Qxb6614335aW6
namespace Go.Proofs.Qxb6614335a
open Go.RowKit Go.Maps Go.WideMaps

theorem turn_set {W : World} {b n k j : Nat} {l : List ByteArray} {s : ByteArray} (hn : n = l.length) (hk : k ≤ n) (hj : j < n) (hr : W.rowIs b 9 n (rowAt (turned l k) j)) (hs : s = l[pos n k j]?.getD ByteArray.empty) :
    (W.setCell ⟨b, j, none⟩ (.string s)).rowIs b 9 n (rowAt (turned l k) (j + 1)) :=
  (hr.set j _).congr (fun i _ => by
    have e : s = (turned l k).getD j ByteArray.empty := by rw [hs, turned_getD hn hk hj]; rfl
    rw [e]; exact rowAt_set _ _ _)
theorem strs_row {W : World} {b n : Nat} {l : List ByteArray} (hn : n = l.length) (hr : W.rowIs b 9 n (rowAt l n)) : Strs W (some ⟨b, 0, none⟩) l := by
  subst hn
  exact .inr ⟨b, 0, rfl, hr.lt, fun j hj => by rw [Nat.zero_add, hr.cell hj, rowAt, if_pos hj]⟩
theorem alike_is {rn rf on og : List ByteArray} {r : Bool} (hr : alikeB rn rf on og = r) (fa : Option Addr) (n fc bm : Nat) (ga : Option Addr) (m gc bo : Nat) (w : World) (h1 : RowIn w fa n bm rn rf) (h2 : RowIn w ga m bo on og) :
    Calls Try.prog 14 #[rowV (.slice fa n fc) (.map (some bm)), rowV (.slice ga m gc) (.map (some bo))] w fun e w' => BoolOut r w w' e := by
  rw [← hr]
  exact alike_any fa n fc bm rn rf ga m gc bo on og w h1 h2
theorem below_alloc (w : World) (o : Obj) : Below w.heap.size w (w.alloc o) := (Below.refl _ _).alloc (Nat.le_refl _) _
theorem set_row {W : World} {b n q : Nat} {fs : List ByteArray} {p : ByteArray} (hn : n = fs.length) (hr : W.rowIs b 9 n (fun j => .string (fs.getD j ByteArray.empty))) : Strs (W.setCell ⟨b, q, none⟩ (.string p)) (some ⟨b, 0, none⟩) (fs.set q p) := by
  have h := hr.set q (.string p)
  refine .inr ⟨b, 0, rfl, h.lt, fun j hj => ?_⟩
  have hj' : j < fs.length := by simpa using hj
  rw [Nat.zero_add, h.cell (by omega), getD_set hj']
  by_cases e : j = q
  · rw [if_pos e, if_pos e]
  · rw [if_neg e, if_neg e]
theorem RowAt.other {w : World} {b : Nat} {f c : Value} (h : RowAt w b f c) {x : Addr} (hne : b ≠ x.block) (v : Value) : RowAt (w.setCell x v) b f c := h.of_block (Below.heap_setCell _ _ _ _ hne)

theorem turn_start (w : World) (n k : Nat) (l l' : List ByteArray) (f c : Value) :
    ((((w.alloc (.cells #[.string { data := #[] }, .int .i64 0, .string { data := #[] }, .string { data := #[] }, .pointer none, .int .i32 0, .slice none 0 0, f, c, .map none, .string { data := #[] }] 35)).alloc (.cells (madeCells #[.string ByteArray.empty] n) 9)).alloc (.cells (madeCells #[.string ByteArray.empty] n) 9)).rowIs (w.heap.size + 1) 9 n (rowAt (turned l k) 0)) ∧
    ((((w.alloc (.cells #[.string { data := #[] }, .int .i64 0, .string { data := #[] }, .string { data := #[] }, .pointer none, .int .i32 0, .slice none 0 0, f, c, .map none, .string { data := #[] }] 35)).alloc (.cells (madeCells #[.string ByteArray.empty] n) 9)).alloc (.cells (madeCells #[.string ByteArray.empty] n) 9)).rowIs (w.heap.size + 1 + 1) 9 n (rowAt (turned l' k) 0)) ∧
    RowAt (((w.alloc (.cells #[.string { data := #[] }, .int .i64 0, .string { data := #[] }, .string { data := #[] }, .pointer none, .int .i32 0, .slice none 0 0, f, c, .map none, .string { data := #[] }] 35)).alloc (.cells (madeCells #[.string ByteArray.empty] n) 9)).alloc (.cells (madeCells #[.string ByteArray.empty] n) 9)) w.heap.size f c ∧
    Below w.heap.size w (((w.alloc (.cells #[.string { data := #[] }, .int .i64 0, .string { data := #[] }, .string { data := #[] }, .pointer none, .int .i32 0, .slice none 0 0, f, c, .map none, .string { data := #[] }] 35)).alloc (.cells (madeCells #[.string ByteArray.empty] n) 9)).alloc (.cells (madeCells #[.string ByteArray.empty] n) 9)) := by
  have hR := rowAt_new w f c 35
  generalize hg : w.alloc (.cells #[.string { data := #[] }, .int .i64 0, .string { data := #[] }, .string { data := #[] }, .pointer none, .int .i32 0, .slice none 0 0, f, c, .map none, .string { data := #[] }] 35) = W at *
  have hB : Below w.heap.size w W := by rw [← hg]; exact (Below.refl _ _).alloc (Nat.le_refl _) _
  have hz : W.heap.size = w.heap.size + 1 := by rw [← hg]; simp
  clear hg
  have m1 := World.rowIs_made W (.string ByteArray.empty) n 9
  have m2 := World.rowIs_made (W.alloc (.cells (madeCells #[.string ByteArray.empty] n) 9)) (.string ByteArray.empty) n 9
  rw [World.size_alloc, hz] at m2
  rw [hz] at m1
  refine ⟨(m1.congr (fun j _ => rowAt_zero _ j)).alloc _, m2.congr (fun j _ => rowAt_zero _ j), ?_, (hB.alloc (by omega) _).alloc (by simp; omega) _⟩
  exact (hR.below ((Below.refl _ _).alloc (Nat.le_refl _) _)).below ((Below.refl _ _).alloc (Nat.le_refl _) _)

set_option maxHeartbeats 2000000 in
set_option maxRecDepth 100000 in
theorem order_in (a : Option Addr) (n cap : Nat) (ns : List ByteArray) (a' : Option Addr) (cap' : Nat) (fs : List ByteArray) (k : Nat) (y : Int) (p : ByteArray) (w : World) (hs : Strs w a ns) (hn : n = ns.length) (hs' : Strs w a' fs) (hn' : n = fs.length)
    (hsz : ∀ s ∈ ns, s.size ≤ maxLen) (h1 : (n : Int) ≤ 65536) (h3 : (p.size : Int) ≤ 65536) (hk : k ≤ n) :
    Calls Try.prog 4 #[.slice a n cap, .slice a' n cap', .int .i64 (k : Int), .int .i64 y, .string p] w fun e w' => e = .returned (.bool true) ∧ Below w.heap.size w w' := by
  have Hn : Hid (n = ns.length) := hn
  have Hn' : Hid (n = fs.length) := hn'
  have HS : Hid (∀ s ∈ ns, s.size ≤ maxLen) := hsz
  clear hn hn' hsz
  have d1 : decide ((65536 : Int) < n) = false := decide_eq_false (by omega)
  have d3 : decide ((65536 : Int) < p.size) = false := decide_eq_false (by omega)
  have e2 : decide ((k : Int) < 0) = false := decide_eq_false (by omega)
  have e3 : decide ((n : Int) < k) = false := decide_eq_false (by omega)
  have hmk := run_make_strs n (by omega)
  go_enter Try.func4, Try.ntmps4
  go_wp2_with (first
    | (go_at_call 15; refine (bytes2 a n cap ns a' n cap' fs k y p _ hs Hn.out hs' Hn'.out).mono ?_; rintro e w1 ⟨⟨r, rfl⟩, rfl⟩; cases r)
    | (go_at_call_of 6 (a); refine (adds_any _ a n cap ns _ hs Hn.out (by omega)).mono ?_; rintro e w1 ⟨⟨z, rfl⟩, rfl⟩)
    | (go_at_call_of 6 (a'); refine (adds_any _ a' n cap' fs _ hs' Hn'.out (by omega)).mono ?_; rintro e w1 ⟨⟨z1, rfl⟩, rfl⟩)
    | (go_at_call 7; refine (add1_any _ p _).mono ?_; rintro e w1 ⟨⟨z2, rfl⟩, rfl⟩; rcases Bool.eq_false_or_eq_true (decide ((1048576 : Int) < z2)) with dz | dz)
    | (go_at_call 8; refine (distinct_any a n cap ns _ hs Hn.out (by omega) HS.out).mono ?_; rintro e w2 ⟨r, rfl, hnd, hb2⟩; have HN : Hid (r = true → ns.Nodup) := hnd; clear hnd; cases r))
  · go_ret; exact ⟨rfl, Below.refl _ _⟩
  · go_ret; exact ⟨rfl, Below.refl _ _⟩
  · go_ret; exact ⟨rfl, by assumption⟩
  have hnd : ns.Nodup := HN.out trivial
  have HND : Hid ns.Nodup := hnd
  clear hnd HN
  have hs2 := hs.below hb2
  have hs2' := hs'.below hb2
  -- fields = clone(fields)
  refine (clone_any a' n cap' fs w2 hs2' Hn'.out (by omega)).mono ?_
  rintro e w3 ⟨fa, fc, rfl, hf3, hb3⟩
  go_wp2_with fail
  -- columns
  refine (cols_any a n cap ns w3 (hs2.below hb3) Hn.out (by omega) HS.out HND.out).mono ?_
  rintro e w4 ⟨bm, D, rfl, hown4, hcols, hb4⟩
  go_wp2_with fail
  refine (row_any fa n fc bm w4).mono ?_
  rintro e w5 ⟨rfl, hb5⟩
  have hns5 : Strs w5 a ns := ((hs2.below hb3).below hb4).below hb5
  have hfs5 : Strs w5 fa fs := (hf3.strs.below hb4).below hb5
  have hrow5 : RowIn w5 fa n bm ns fs := ⟨hfs5, Hn'.out, Hn.out.symm.trans Hn'.out, HND.out, n, D, owns_block hown4 (hb5.block _ hown4.lt), hcols⟩
  have hz2 := hb2.size
  have hz3 := hb3.size
  have hz4 := hb4.size
  have hz5 := hb5.size
  have hw5 : Below w1.heap.size w1 w5 := ((hb2.trans (hb3.mono hz2)).trans (hb4.mono (by omega))).trans (hb5.mono (by omega))
  clear hs hs' hs2 hs2' hf3 hown4 hcols hb2 hb3 hb4 hb5
  go_wp2_with fail
  have hn1 : n ≤ ns.length := Nat.le_of_eq Hn.out
  have hn2 : n ≤ fs.length := Nat.le_of_eq Hn'.out
  go_loopw [17] (fun i wr => ∃ j : Nat, j ≤ n ∧ i = .int .i64 j ∧ wr.rowIs (w5.heap.size + 1) 9 n (rowAt (turned ns k) j) ∧ wr.rowIs (w5.heap.size + 1 + 1) 9 n (rowAt (turned fs k) j) ∧ RowAt wr w5.heap.size (.slice fa n fc) (.map (some bm)) ∧ Below w5.heap.size w5 wr) (fun i _ => n - (intOf i).toNat)
  case atStart =>
    obtain ⟨t1, t2, t3, t4⟩ := turn_start w5 n k ns fs (.slice fa n fc) (.map (some bm))
    exact ⟨0, Nat.zero_le _, rfl, t1, t2, t3, t4⟩
  case round =>
    obtain ⟨j, hj, rfl, hr1, hr2, hra, hbw⟩ := hrel
    by_cases hlt : j < n
    · have q1 := hr1.cell hlt
      have q2 := hr2.cell hlt
      have g1 := hr1.frozen j
      have g2 := hr2.frozen j
      by_cases hjk : n ≤ j + k
      · obtain ⟨b, off, rfl, hb, hck0⟩ := hns5.at (k := j + k - n) (by omega)
        obtain ⟨b', off', rfl, hb', hck0'⟩ := hfs5.at (k := j + k - n) (by omega)
        have hck := (hbw.cell (p := ⟨b, off + (j + k - n), none⟩) hb).trans hck0
        have hck' := (hbw.cell (p := ⟨b', off' + (j + k - n), none⟩) hb').trans hck0'
        clear hck0 hck0'
        go_wp2
        refine ⟨⟨j + 1, by omega, by go_num, (turn_set Hn.out hk hlt hr1 (by unfold pos; rw [if_pos hjk])).setOther (by simp) _, turn_set Hn'.out hk hlt (hr2.setOther (by simp) _) (by unfold pos; rw [if_pos hjk]), (hra.other (by simp) _).other (by simp; omega) _, (hbw.setCell (by simp) _).setCell (by simp; omega) _⟩, by simp [intOf]; omega⟩
      · obtain ⟨b, off, rfl, hb, hck0⟩ := hns5.at (k := j + k) (by omega)
        obtain ⟨b', off', rfl, hb', hck0'⟩ := hfs5.at (k := j + k) (by omega)
        have hck := (hbw.cell (p := ⟨b, off + (j + k), none⟩) hb).trans hck0
        have hck' := (hbw.cell (p := ⟨b', off' + (j + k), none⟩) hb').trans hck0'
        clear hck0 hck0'
        go_wp2
        refine ⟨⟨j + 1, by omega, by go_num, (turn_set Hn.out hk hlt hr1 (by unfold pos; rw [if_neg hjk])).setOther (by simp) _, turn_set Hn'.out hk hlt (hr2.setOther (by simp) _) (by unfold pos; rw [if_neg hjk]), (hra.other (by simp) _).other (by simp; omega) _, (hbw.setCell (by simp) _).setCell (by simp; omega) _⟩, by simp [intOf]; omega⟩
    · have hjn : j = n := by omega
      rw [hjn] at hr1 hr2
      clear hjn
      have hlens : ns.length = fs.length := Hn.out.symm.trans Hn'.out
      have Hlens : Hid (ns.length = fs.length) := hlens
      clear hlens
      have hkl : k ≤ ns.length := by rw [← Hn.out]; exact hk
      have ht1 : n = (turned ns k).length := by rw [turned_length]; exact Hn.out
      have ht2 : n = (turned fs k).length := by rw [turned_length]; exact Hn'.out
      have HT1 : Hid (n = (turned ns k).length) := ht1
      have HT2 : Hid (n = (turned fs k).length) := ht2
      have hst1 := strs_row ht1 hr1
      have hst2 := strs_row ht2 hr2
      clear ht1 ht2 hr1 hr2
      have hrowR : RowIn wr fa n bm ns fs := hrow5.below hbw
      have hwr : Below w1.heap.size w1 wr := hw5.trans (hbw.mono (by have := hw5.size; omega))
      have hltR : w5.heap.size < wr.heap.size := hra.lt
      clear hbw hrow5 hns5 hfs5
      go_wp2_with fail
      refine (cols_any _ n n (turned ns k) wr hst1 HT1.out (by omega) (fun s h => HS.out s (turned_mem.1 h)) (turned_nodup HND.out k)).mono ?_
      rintro e w6 ⟨bo, D', rfl, hown6, hcols6, hb6⟩
      go_wp2_with fail
      refine (row_any _ n n bo w6).mono ?_
      rintro e w7 ⟨rfl, hb7⟩
      have hb67 : Below wr.heap.size wr w7 := hb6.trans (hb7.mono hb6.size)
      have hra7 := hra.below hb67
      have hrowR7 := hrowR.below hb67
      have hrowP7 : RowIn w7 (some ⟨w5.heap.size + 1 + 1, 0, none⟩) n bo (turned ns k) (turned fs k) :=
        ⟨hst2.below hb67, HT2.out, by rw [turned_length, turned_length]; exact Hlens.out, turned_nodup HND.out k, n, D', owns_block hown6 (hb7.block _ hown6.lt), hcols6⟩
      have hlt7 : w5.heap.size < w7.heap.size := hra7.lt
      have hw7 : Below w1.heap.size w1 w7 := hwr.trans (hb67.mono hwr.size)
      obtain ⟨c0, c1, c2, c3, c4, c5, c6, c7, c8, c9, c10⟩ := id hra7
      clear hra hst1 hst2 hown6 hcols6 hb6 hb7 hrowR
      go_wp2_with fail
      refine (alike_is (alikeB_turned HND.out Hlens.out hkl) fa n fc bm _ n n bo _ (hrowR7.below (below_alloc _ _)) (hrowP7.below (below_alloc _ _))).mono ?_
      rintro e w8 ⟨rfl, hb8⟩
      have hb78 : Below w7.heap.size w7 w8 := (below_alloc _ _).trans (hb8.mono (by simp))
      have hraP8 := (rowAt_new w7 _ _ 35).below hb8
      have hra8 := hra7.below hb78
      have hrowR8 := hrowR7.below hb78
      have hrowP8 := hrowP7.below hb78
      have hw8 : Below w1.heap.size w1 w8 := hw7.trans (hb78.mono hw7.size)
      clear c0 c1 c2 c3 c4 c5 c6 c7 c8 c9 c10 hra7 hrowR7 hrowP7 hb8
      obtain ⟨c0, c1, c2, c3, c4, c5, c6, c7, c8, c9, c10⟩ := id hra8
      obtain ⟨p0, p1, p2, p3, p4, p5, p6, p7, p8, p9, p10⟩ := id hraP8
      go_wp2_with fail
      refine (alike_is (alikeB_turned' HND.out Hlens.out hkl) _ n n bo fa n fc bm _ hrowP8 hrowR8).mono ?_
      rintro e w9 ⟨rfl, hb9⟩
      have hra9 := hra8.below hb9
      have hrowR9 := hrowR8.below hb9
      have hw9 : Below w1.heap.size w1 w9 := hw8.trans (hb9.mono hw8.size)
      clear c0 c1 c2 c3 c4 c5 c6 c7 c8 c9 c10 p0 p1 p2 p3 p4 p5 p6 p7 p8 p9 p10 hra8 hraP8 hrowR8 hrowP8 hb9
      by_cases y1 : y < 0
      · have y1' : decide (0 ≤ y) = false := decide_eq_false (by omega)
        go_wp2
        go_ret
        exact ⟨rfl, hw9⟩
      by_cases y2 : (n : Int) ≤ y
      · have y2' : decide (y < (n : Int)) = false := decide_eq_false (by omega)
        go_wp2
        go_ret
        exact ⟨rfl, hw9⟩
      obtain ⟨q, rfl⟩ : ∃ q : Nat, y = q := ⟨y.toNat, by omega⟩
      have hqn : q < n := by omega
      clear y1 y2
      go_wp2_with fail
      refine (clone_any fa n fc fs w9 hrowR9.strs Hn'.out (by omega)).mono ?_
      rintro e w10 ⟨da, dc, rfl, hd, hb10⟩
      have hne : fs ≠ [] := fun h => by have := Hn'.out; rw [h] at this; simp at this; omega
      obtain ⟨db, hdb, rfl, hdr⟩ := hd.resolve_left hne
      clear hd hne
      rw [← Hn'.out] at hdr
      have hdc := hdr.cell hqn
      have hdf := hdr.frozen q
      go_wp2_with fail
      have hb10' : Below w9.heap.size w9 (w10.setCell ⟨db, q, none⟩ (.string p)) := hb10.setCell hdb _
      have hsq := set_row (q := q) (p := p) Hn'.out hdr
      refine (row_any _ n dc bm _).mono ?_
      rintro e w11 ⟨rfl, hb11⟩
      have hb911 : Below w9.heap.size w9 w11 := hb10'.trans (hb11.mono hb10'.size)
      have hra11 := hra9.below hb911
      have hrowR11 := hrowR9.below hb911
      have hw11 : Below w1.heap.size w1 w11 := hw9.trans (hb911.mono hw9.size)
      have hrowQ11 : RowIn w11 (some ⟨db, 0, none⟩) n bm ns (fs.set q p) := ⟨hsq.below hb11, by rw [List.length_set]; exact Hn'.out, by rw [List.length_set]; exact Hlens.out, HND.out, hrowR11.cols⟩
      have hset := alikeB_set (s := p) HND.out Hlens.out (j := q) (by rw [← Hn.out]; exact hqn)
      have HSET : Hid (alikeB ns fs ns (fs.set q p) = (p.toList == (fs[q]?.getD ByteArray.empty).toList) ∧ alikeB ns (fs.set q p) ns fs = (p.toList == (fs[q]?.getD ByteArray.empty).toList)) := hset
      clear hset hsq hdr hdc hdf hb10 hb10' hb11 hb911 hra9 hrowR9
      obtain ⟨b, off, rfl, hb, hck⟩ := hrowR11.strs.at (k := q) (by omega)
      have hlt11 : w5.heap.size < w11.heap.size := hra11.lt
      obtain ⟨c0, c1, c2, c3, c4, c5, c6, c7, c8, c9, c10⟩ := id hra11
      rcases Bool.eq_false_or_eq_true (p.toList == (fs[q]?.getD ByteArray.empty).toList) with hwant | hwant
      all_goals
        have hs1 := HSET.out.1.trans hwant
        have hs2 := HSET.out.2.trans hwant
        have HS1 : Hid (alikeB ns fs ns (fs.set q p) = _) := hs1
        have HS2 : Hid (alikeB ns (fs.set q p) ns fs = _) := hs2
        clear hs1 hs2
        go_wp2_with fail
        refine (alike_is HS1.out _ n fc bm _ n dc bm _ (hrowR11.below (below_alloc _ _)) (hrowQ11.below (below_alloc _ _))).mono ?_
        rintro e w12 ⟨rfl, hb12⟩
        have hb1112 : Below w11.heap.size w11 w12 := (below_alloc _ _).trans (hb12.mono (by simp))
        have hraQ12 := (rowAt_new w11 _ _ 35).below hb12
        have hra12 := hra11.below hb1112
        have hrowR12 := hrowR11.below hb1112
        have hrowQ12 := hrowQ11.below hb1112
        have hw12 : Below w1.heap.size w1 w12 := hw11.trans (hb1112.mono hw11.size)
        clear c0 c1 c2 c3 c4 c5 c6 c7 c8 c9 c10 hra11 hrowR11 hrowQ11 hb12
        obtain ⟨c0, c1, c2, c3, c4, c5, c6, c7, c8, c9, c10⟩ := id hra12
        obtain ⟨p0, p1, p2, p3, p4, p5, p6, p7, p8, p9, p10⟩ := id hraQ12
        go_wp2_with fail
        refine (alike_is HS2.out _ n dc bm _ n fc bm _ hrowQ12 hrowR12).mono ?_
        rintro e w13 ⟨rfl, hb13⟩
        have hw13 : Below w1.heap.size w1 w13 := hw12.trans (hb13.mono hw12.size)
        clear c0 c1 c2 c3 c4 c5 c6 c7 c8 c9 c10 p0 p1 p2 p3 p4 p5 p6 p7 p8 p9 p10
        go_wp2
        go_ret
        exact ⟨rfl, hw13⟩

theorem order_any (a : Option Addr) (n cap : Nat) (ns : List ByteArray) (a' : Option Addr) (n' cap' : Nat) (fs : List ByteArray) (x y : Int) (p : ByteArray) (w : World) (hs : Strs w a ns) (hn : n = ns.length) (hs' : Strs w a' fs) (hn' : n' = fs.length) (hsz : ∀ s ∈ ns, s.size ≤ maxLen) :
    Calls Try.prog 4 #[.slice a n cap, .slice a' n' cap', .int .i64 x, .int .i64 y, .string p] w fun e w' => e = .returned (.bool true) ∧ Below w.heap.size w w' := by
  by_cases hb : (65536 : Int) < n ∨ (65536 : Int) < n' ∨ (65536 : Int) < p.size
  · exact order_big a n cap ns a' n' cap' fs x y p w hs hn hs' hn' hb
  by_cases ho : ¬ n' = n ∨ x < 0 ∨ (n : Int) < x
  · exact order_out a n cap ns a' n' cap' fs x y p w hs hn hs' hn' (by omega) (by omega) (by omega) ho
  obtain rfl : n' = n := Classical.byContradiction (fun h => ho (.inl h))
  obtain ⟨k, rfl⟩ : ∃ k : Nat, x = k := ⟨x.toNat, by omega⟩
  exact order_in a n' cap ns a' cap' fs k y p w hs hn hs' hn' hsz (by omega) (by omega) (by omega)

end Go.Proofs.Qxb6614335a
