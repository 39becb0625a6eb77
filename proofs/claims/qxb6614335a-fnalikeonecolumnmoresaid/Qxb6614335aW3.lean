import Derived.Test.Qxb6614335aW2
import Derived.Maps.OwnSet
import Derived.Maps.OwnOps
namespace Go.Proofs.Qxb6614335a
open Go.RowKit Go.Maps Go.WideMaps

theorem run_makeMap_hint {P : Program} {t k e : TypeId} (ht : P.underlying t = some (.map k e)) (q : IntKind) (n : Int) (w : World) :
    (Instr.makeMap t (some (.int q n))).run P w = .ok (.map (some w.heap.size)) (w.alloc (.map #[] 0)) := by
  simp [Instr.makeMap, run_underlying ht, asInt]
  rfl

theorem law9 : Keyed Try.prog 9 := string_keyed Try.underlying9
theorem zero4 (w : World) : (zeroValue 4).run Try.prog w = .ok (.bool false) w := by kernel_rfl
theorem zero3 (w : World) : (zeroValue 3).run Try.prog w = .ok (.int .i64 0) w := by kernel_rfl
def key (s : ByteArray) : Lit := .string s.data.toList
theorem key_inj {s t : ByteArray} (h : key s = key t) : s = t := by
  unfold key at h
  exact WideShapes.bytes_inj (Lit.string.inj h)
theorem key_isKey (s : ByteArray) : WideAt.IsKeyLit (key s) := trivial
theorem eq_of_toList {s t : ByteArray} (h : (s.toList == t.toList) = true) : s = t := by
  have := eq_of_beq h
  rw [ByteArray.toList_eq, ByteArray.toList_eq] at this
  exact WideShapes.bytes_inj this
theorem ne_of_toList {s t : ByteArray} (h : (s.toList == t.toList) = false) : s ≠ t := fun e => by subst e; simp at h

theorem plainElem_bool_inv {v : Value} {z : DataW Unit × List MemPlace} (h : plainElem Try.prog 4 v = some z) : ∃ x, v = .bool x ∧ z = (.lit (.bool x), []) := by
  have hu := Try.underlying4
  cases v <;> simp [plainElem, hu] at h
  exact ⟨_, rfl, h.symm⟩

/-- A look-up in a map of bools that the call made. -/
theorem wpList_lookup_own_bool (w : World) {ops : Array Oper} {rest : List Oper} {o : Oper} {a : Act} {Q : Exit → Act → World → Prop}
    (hg : o.guard = none) (m x : Operand) (hop : o.op = Op.lookup 41 m x false) (b n : Nat) (D : DataW Unit)
    (hm : a.eval m = .map (some b)) (hown : w.ownsMap Try.prog 9 (plainElem Try.prog 4) b n D) (kv : Value) (kl : Lit) (hx : a.eval x = kv) (hkey : keyOf Try.prog 9 kv = some kl)
    (hK : ∀ c : Bool, D.atKey kl (.lit (.bool false)) = .lit (.bool c) → wpList Try.prog ops Q rest (a.put o.dst (.bool c)) w) :
    wpList Try.prog ops Q (o :: rest) a w := by
  refine wpList_plain hg fun K' hK' => ?_
  obtain ⟨v, ps, hrun, hv⟩ := hown.lookup law9 Try.underlying41 (zero4 _) (plainElem_bool Try.underlying4 false) hkey
  obtain ⟨c, rfl, hc⟩ := plainElem_bool_inv hv
  unfold Oper.wp
  simp [execOp, hop, hm, hx, hrun, Result.andThen]
  exact hK' _ _ (hK c (congrArg Prod.fst hc))

theorem take_snoc (ss : List ByteArray) (k : Nat) (h : k < ss.length) : ss.take (k + 1) = ss.take k ++ [ss[k]?.getD ByteArray.empty] := by
  rw [List.take_succ_eq_append_getElem h, List.getElem?_eq_getElem h]; rfl

/-- The map holds 'true' at just the names of l. -/
def Marks (D : DataW Unit) (l : List ByteArray) : Prop :=
  ∀ s, (s ∈ l → D.atKey (key s) (.lit (.bool false)) = .lit (.bool true)) ∧ (s ∉ l → D.atKey (key s) (.lit (.bool false)) = .lit (.bool false))
theorem marks_nil : Marks (.map []) [] := fun _ => ⟨(fun h => by cases h), fun _ => rfl⟩
theorem marks_put {D : DataW Unit} {l : List ByteArray} (h : Marks D l) (hm : IsMap D) (s : ByteArray) : Marks (D.put (key s) (.lit (.bool true))) (l ++ [s]) := by
  intro t
  by_cases e : t = s
  · subst e
    exact ⟨fun _ => atKey_put_same hm (key_isKey t) _ _, fun hn => absurd (by simp) hn⟩
  · rw [atKey_put_other (fun h => e (key_inj h))]
    refine ⟨fun hm => (h t).1 ?_, fun hm => (h t).2 (fun h2 => hm (by simp [h2]))⟩
    simpa [e] using hm
theorem marks_false {D : DataW Unit} {l : List ByteArray} (h : Marks D l) {s : ByteArray} (hs : D.atKey (key s) (.lit (.bool false)) = .lit (.bool false)) : s ∉ l := fun hm => by
  have := (h s).1 hm
  rw [hs] at this
  simp at this
theorem nodup_snoc {l : List ByteArray} (h : l.Nodup) {s : ByteArray} (hs : s ∉ l) : (l ++ [s]).Nodup := by
  rw [List.nodup_append]
  exact ⟨h, by simp, fun a ha b hb => by simp at hb; subst hb; exact fun e => hs (e ▸ ha)⟩

def DistOut (ss : List ByteArray) (w w' : World) (e : Ending) : Prop := ∃ r : Bool, e = .returned (.bool r) ∧ (r = true → ss.Nodup) ∧ Below w.heap.size w w'

set_option maxHeartbeats 400000 in
set_option maxRecDepth 100000 in
theorem distinct_any (a : Option Addr) (n cap : Nat) (ss : List ByteArray) (w : World) (hs : Strs w a ss) (hn : n = ss.length) (hl : n ≤ 65536) (hsz : ∀ s ∈ ss, s.size ≤ maxLen) :
    Calls Try.prog 8 #[.slice a n cap] w fun e w' => DistOut ss w w' e := by
  have hmm := run_makeMap_hint Try.underlying41 .i64 (n : Int)
  have hn1 : n ≤ ss.length := Nat.le_of_eq hn
  have Hn : Hid (n = ss.length) := hn
  clear hn
  go_enter Try.func8, Try.ntmps8
  go_wp2
  go_loopw [4] (fun i wr => ∃ k : Nat, k ≤ n ∧ i = .int .i64 k ∧ (∃ D, wr.ownsMap Try.prog 9 (plainElem Try.prog 4) w.heap.size k D ∧ Marks D (ss.take k)) ∧ (ss.take k).Nodup ∧ Below w.heap.size w wr) (fun i _ => n - (intOf i).toNat)
  case atStart => exact ⟨0, Nat.zero_le _, rfl, ⟨_, World.ownsMap_made _ _ _ _, by simpa using marks_nil⟩, by simp, (Below.refl _ _).alloc (Nat.le_refl _) _⟩
  case round =>
    obtain ⟨k, hk, rfl, ⟨D, hown, hmk⟩, hnd, hbw⟩ := hrel
    have HM : Hid (Marks D (ss.take k)) := hmk
    have HD : Hid ((ss.take k).Nodup) := hnd
    clear hmk hnd
    by_cases hlt : k < n
    · obtain ⟨b, off, rfl, hb, hck0⟩ := hs.at (k := k) (by omega)
      have hck := (hbw.cell (p := ⟨b, off + k, none⟩) hb).trans hck0
      clear hck0
      have hsk : (ss[k]?.getD ByteArray.empty).size ≤ maxLen := hsz _ (by rw [List.getElem?_eq_getElem (by omega)]; exact List.getElem_mem _)
      have hkey : keyOf Try.prog 9 (.string (ss[k]?.getD ByteArray.empty)) = some (key (ss[k]?.getD ByteArray.empty)) := keyOf_string_mk Try.underlying9 hsk
      go_wp2_with (first
        | (at_lookup; refine wpList_lookup_own_bool _ rfl _ _ rfl w.heap.size k D rfl hown _ _ rfl hkey ?_; intro c hat; have HA : Hid (D.atKey (key (ss[k]?.getD ByteArray.empty)) (.lit (.bool false)) = .lit (.bool c)) := hat; clear hat; cases c)
        | (at_mapUpdate; refine wpList_mapUpdate_own _ rfl _ _ _ 41 rfl 9 4 law9 Try.underlying41 _ w.heap.size k D rfl hown (by unfold maxLen; omega) _ _ _ rfl rfl hkey _ [] (plainElem_bool Try.underlying4 true) ?_; intro w1 hown1 hgrow1))
      · have hno := marks_false HM.out HA.out
        refine ⟨⟨k + 1, by omega, by go_num, ⟨_, hown1, ?_⟩, ?_, hbw.grown hgrow1 hbw.size (fun j hj => by cases hj; exact Nat.le_refl _)⟩, by simp [intOf]; omega⟩
        · rw [take_snoc ss k (by omega)]; exact marks_put HM.out hown.isMap _
        · rw [take_snoc ss k (by omega)]; exact nodup_snoc HD.out hno
      · go_ret
        exact ⟨false, rfl, (fun h => by cases h), hbw⟩
    · go_wp2
      go_ret
      have hkn : n ≤ k := by omega
      refine ⟨true, rfl, fun _ => ?_, hbw⟩
      have h := HD.out
      rwa [List.take_of_length_le (by rw [← Hn.out]; exact hkn)] at h

def HoldsOut (ss : List ByteArray) (p : ByteArray) (e : Ending) : Prop := ∃ r : Bool, e = .returned (.bool r) ∧ (r = false → p ∉ ss)

set_option maxHeartbeats 400000 in
set_option maxRecDepth 100000 in
theorem holds_any (a : Option Addr) (n cap : Nat) (ss : List ByteArray) (p : ByteArray) (w : World) (hs : Strs w a ss) (hn : n = ss.length) (hl : n ≤ 65536) :
    Calls Try.prog 9 #[.slice a n cap, .string p] w fun e w' => HoldsOut ss p e ∧ w' = w := by
  have hn1 : n ≤ ss.length := Nat.le_of_eq hn
  have Hn : Hid (n = ss.length) := hn
  clear hn
  go_enter Try.func9, Try.ntmps9
  go_wp2
  go_loop [5] (fun i => ∃ k : Nat, k ≤ n ∧ i = .int .i64 k ∧ p ∉ ss.take k) (fun i => n - (intOf i).toNat)
  case atStart => exact ⟨0, Nat.zero_le _, rfl, by simp⟩
  case round =>
    obtain ⟨k, hk, rfl, hno⟩ := hrel
    have HN : Hid (p ∉ ss.take k) := hno
    clear hno
    by_cases hlt : k < n
    · obtain ⟨b, off, rfl, hb, hck⟩ := hs.at (k := k) (by omega)
      rcases Bool.eq_false_or_eq_true ((ss[k]?.getD ByteArray.empty).toList == p.toList) with he | he
      · go_wp2
        go_ret
        exact ⟨⟨true, rfl, fun h => by cases h⟩, rfl⟩
      · have hne := ne_of_toList he
        have HE : Hid (ss[k]?.getD ByteArray.empty ≠ p) := hne
        clear hne
        go_wp2
        refine ⟨⟨k + 1, by omega, by go_num, ?_⟩, by simp [intOf]; omega⟩
        rw [take_snoc ss k (by omega)]
        intro hm
        rcases List.mem_append.1 hm with h | h
        · exact HN.out h
        · rw [List.mem_singleton] at h; exact HE.out h.symm
    · go_wp2
      go_ret
      have hkn : n ≤ k := by omega
      have h := HN.out
      rw [List.take_of_length_le (by rw [← Hn.out]; exact hkn)] at h
      exact ⟨⟨false, rfl, fun _ => h⟩, rfl⟩

/-! ### The columns' map -/
abbrev i64 (n : Int) : DataW Unit := .lit (.int .i64 n)

/-- The map leads each name of l to its place. -/
structure ColsOf (D : DataW Unit) (l : List ByteArray) : Prop where
  size : Maps.size D = l.length
  yes : ∀ s, s ∈ l → Maps.has D (key s) = true
  no : ∀ s, s ∉ l → Maps.has D (key s) = false
  pos : ∀ i, i < l.length → D.atKey (key (l.getD i ByteArray.empty)) (i64 0) = i64 i

theorem cols_nil : ColsOf (.map []) [] := ⟨rfl, fun _ h => by (cases h), fun _ _ => rfl, fun _ h => by (cases h)⟩
theorem cols_put {D : DataW Unit} {l : List ByteArray} (h : ColsOf D l) (ht : Tidy D) {s : ByteArray} (hs : s ∉ l) {k : Nat} (hk : k = l.length) : ColsOf (D.put (key s) (i64 k)) (l ++ [s]) := by
  refine ⟨?_, fun t ht' => ?_, fun t ht' => ?_, fun i hi => ?_⟩
  · rw [size_put ht, h.no s hs]; simp [h.size]
  · by_cases e : t = s
    · subst e; exact has_put_same ht.isMap (key_isKey t) _
    · rw [has_put_other (fun h => e (key_inj h))]
      exact h.yes t (by simpa [e] using ht')
  · have e : t ≠ s := fun e => ht' (by simp [e])
    rw [has_put_other (fun h => e (key_inj h))]
    exact h.no t (fun h2 => ht' (by simp [h2]))
  · rw [List.length_append] at hi
    by_cases e : i = l.length
    · rw [getD_snoc_eq e, atKey_put_same ht.isMap (key_isKey s), e, hk]
    · have hi' : i < l.length := by simp at hi; omega
      have hne : l.getD i ByteArray.empty ≠ s := fun e2 => hs (by rw [← e2, List.getD, List.getElem?_eq_getElem hi']; exact List.getElem_mem hi')
      rw [getD_snoc_lt hi', atKey_put_other (fun h => hne (key_inj h))]
      exact h.pos i hi'

def ColsOut (ss : List ByteArray) (w w' : World) (n : Nat) (e : Ending) : Prop :=
  ∃ bm D, e = .returned (.map (some bm)) ∧ w'.ownsMap Try.prog 9 (plainElem Try.prog 3) bm n D ∧ ColsOf D ss ∧ Below w.heap.size w w'

theorem nodup_take_not {ss : List ByteArray} (h : ss.Nodup) {k : Nat} (hk : k < ss.length) : ss[k]?.getD ByteArray.empty ∉ ss.take k := by
  have h1 : (ss.take (k + 1)).Nodup := List.Sublist.nodup (List.take_sublist _ _) h
  rw [take_snoc ss k hk, List.nodup_append] at h1
  exact fun hm => h1.2.2 _ hm _ (by simp) rfl

set_option maxHeartbeats 400000 in
set_option maxRecDepth 100000 in
theorem cols_any (a : Option Addr) (n cap : Nat) (ss : List ByteArray) (w : World) (hs : Strs w a ss) (hn : n = ss.length) (hl : n ≤ 65537) (hsz : ∀ s ∈ ss, s.size ≤ maxLen) (hnd : ss.Nodup) :
    Calls Try.prog 12 #[.slice a n cap] w fun e w' => ColsOut ss w w' n e := by
  have hmm := run_makeMap_hint Try.underlying32 .i64 (n : Int)
  have hn1 : n ≤ ss.length := Nat.le_of_eq hn
  have Hn : Hid (n = ss.length) := hn
  have HD : Hid ss.Nodup := hnd
  clear hn hnd
  go_enter Try.func12, Try.ntmps12
  go_wp2
  go_loopw [4] (fun i wr => ∃ k : Nat, k ≤ n ∧ i = .int .i64 k ∧ (∃ D, wr.ownsMap Try.prog 9 (plainElem Try.prog 3) w.heap.size k D ∧ ColsOf D (ss.take k)) ∧ Below w.heap.size w wr) (fun i _ => n - (intOf i).toNat)
  case atStart => exact ⟨0, Nat.zero_le _, rfl, ⟨_, World.ownsMap_made _ _ _ _, by simpa using cols_nil⟩, (Below.refl _ _).alloc (Nat.le_refl _) _⟩
  case round =>
    obtain ⟨k, hk, rfl, ⟨D, hown, hcs⟩, hbw⟩ := hrel
    have HC : Hid (ColsOf D (ss.take k)) := hcs
    clear hcs
    by_cases hlt : k < n
    · obtain ⟨b, off, rfl, hb, hck0⟩ := hs.at (k := k) (by omega)
      have hck := (hbw.cell (p := ⟨b, off + k, none⟩) hb).trans hck0
      clear hck0
      have hsk : (ss[k]?.getD ByteArray.empty).size ≤ maxLen := hsz _ (by rw [List.getElem?_eq_getElem (by omega)]; exact List.getElem_mem _)
      have hkey : keyOf Try.prog 9 (.string (ss[k]?.getD ByteArray.empty)) = some (key (ss[k]?.getD ByteArray.empty)) := keyOf_string_mk Try.underlying9 hsk
      go_wp2_with (first
        | (at_mapUpdate; refine wpList_mapUpdate_own _ rfl _ _ _ 32 rfl 9 3 law9 Try.underlying32 _ w.heap.size k D rfl hown (by unfold maxLen; omega) _ _ _ rfl rfl hkey _ [] (plainElem_int Try.underlying3 (WalkArith.wf_i64 (by omega))) ?_; intro w1 hown1 hgrow1))
      refine ⟨⟨k + 1, by omega, by go_num, ⟨_, hown1, ?_⟩, hbw.grown hgrow1 hbw.size (fun j hj => by cases hj; exact Nat.le_refl _)⟩, by simp [intOf]; omega⟩
      rw [take_snoc ss k (by omega)]
      exact cols_put HC.out (hown.tidy law9) (nodup_take_not HD.out (by omega)) (by rw [List.length_take]; omega)
    · go_wp2
      go_ret
      have hkn : k = n := by omega
      rw [hkn] at hown
      have h := HC.out
      rw [List.take_of_length_le (by rw [← Hn.out]; omega)] at h
      exact ⟨_, _, rfl, hown, h, hbw⟩

end Go.Proofs.Qxb6614335a
