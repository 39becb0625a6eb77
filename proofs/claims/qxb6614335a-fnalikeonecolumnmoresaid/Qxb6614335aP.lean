import Derived.Test.Qxb6614335aW5
namespace Go.Proofs.Qxb6614335a

/-! ### The plain laws, no Go in sight -/
theorem sameB_of_eq {rn rf on og : List ByteArray} {s : ByteArray} (h : fld rn rf s = fld on og s) : sameB rn rf on og s = true := by
  unfold sameB; rw [h]; simp

theorem alikeB_self (rn rf : List ByteArray) : alikeB rn rf rn rf = true := alikeB_yes rfl (fun _ _ => sameB_of_eq rfl)

/-! #### One column more -/
theorem fld_snoc_ne {c v s : ByteArray} (hs : s ≠ c) : ∀ {rn rf : List ByteArray}, rn.length = rf.length → fld (rn ++ [c]) (rf ++ [v]) s = fld rn rf s
  | [], [], _ => by
    have e : ¬ (c.toList == s.toList) = true := fun e => hs (eq_of_toList e).symm
    show fld [c] [v] s = fld [] [] s
    rw [fld, if_neg e]
  | [], _ :: _, h => by simp at h
  | _ :: _, [], h => by simp at h
  | a :: xs, f :: fs, h => by
    show (if (a.toList == s.toList) = true then f else fld (xs ++ [c]) (fs ++ [v]) s) = if (a.toList == s.toList) = true then f else fld xs fs s
    rw [fld_snoc_ne hs (by simpa using h)]
theorem fld_snoc_eq {c v : ByteArray} : ∀ {rn rf : List ByteArray}, rn.length = rf.length → c ∉ rn → fld (rn ++ [c]) (rf ++ [v]) c = v
  | [], [], _, _ => by
    show fld [c] [v] c = v
    rw [fld, if_pos (by simp)]
  | [], _ :: _, h, _ => by simp at h
  | _ :: _, [], h, _ => by simp at h
  | a :: xs, f :: fs, h, hc => by
    have e : ¬ (a.toList == c.toList) = true := fun e => hc (by rw [eq_of_toList e]; simp)
    show (if (a.toList == c.toList) = true then f else fld (xs ++ [c]) (fs ++ [v]) c) = v
    rw [if_neg e]
    exact fld_snoc_eq (by simpa using h) (fun hm => hc (by simp [hm]))

theorem alikeB_more {rn rf on og : List ByteArray} {c v u : ByteArray} (hr : rn.length = rf.length) (ho : on.length = og.length) (hcr : c ∉ rn) (hco : c ∉ on) :
    alikeB (rn ++ [c]) (rf ++ [v]) (on ++ [c]) (og ++ [u]) = (alikeB rn rf on og && (v.toList == u.toList)) := by
  have h1 : (rn ++ [c]).all (sameB (rn ++ [c]) (rf ++ [v]) (on ++ [c]) (og ++ [u])) = (rn.all (sameB rn rf on og) && (v.toList == u.toList)) := by
    rw [List.all_append]
    have h2 : rn.all (sameB (rn ++ [c]) (rf ++ [v]) (on ++ [c]) (og ++ [u])) = rn.all (sameB rn rf on og) := by
      rw [Bool.eq_iff_iff, List.all_eq_true, List.all_eq_true]
      have e : ∀ s, s ∈ rn → sameB (rn ++ [c]) (rf ++ [v]) (on ++ [c]) (og ++ [u]) s = sameB rn rf on og s := fun s hs => by
        have hne : s ≠ c := fun e => hcr (e ▸ hs)
        unfold sameB
        rw [fld_snoc_ne hne hr, fld_snoc_ne hne ho]
      exact ⟨fun h s hs => (e s hs).symm.trans (h s hs), fun h s hs => (e s hs).trans (h s hs)⟩
    have h3 : [c].all (sameB (rn ++ [c]) (rf ++ [v]) (on ++ [c]) (og ++ [u])) = (v.toList == u.toList) := by
      rw [List.all_cons, List.all_nil, Bool.and_true]
      unfold sameB
      rw [fld_snoc_eq hr hcr, fld_snoc_eq ho hco]
    rw [h2, h3]
  unfold alikeB
  rw [h1, ← Bool.and_assoc]
  have e : decide ((rn ++ [c]).length = (on ++ [c]).length) = decide (rn.length = on.length) := by
    simp
  rw [e]

theorem nodup_more {l : List ByteArray} (h : l.Nodup) {c : ByteArray} (hc : c ∉ l) : (l ++ [c]).Nodup := nodup_snoc h hc

/-! #### The columns turned -/
def pos (n k j : Nat) : Nat := if n ≤ j + k then j + k - n else j + k
def turned (l : List ByteArray) (k : Nat) : List ByteArray := l.drop k ++ l.take k

theorem turned_length (l : List ByteArray) (k : Nat) : (turned l k).length = l.length := by
  simp [turned]; omega
theorem turned_getD {l : List ByteArray} {n k j : Nat} (hn : n = l.length) (hk : k ≤ n) (hj : j < n) : (turned l k).getD j ByteArray.empty = l.getD (pos n k j) ByteArray.empty := by
  subst hn
  unfold turned pos
  by_cases h : l.length ≤ j + k
  · rw [if_pos h, List.getD, List.getElem?_append_right (by simp; omega), List.length_drop, List.getElem?_take_of_lt (by omega), ← List.getD]
    congr 1; omega
  · rw [if_neg h, List.getD, List.getElem?_append_left (by simp; omega), List.getElem?_drop, ← List.getD]
    congr 1; omega
theorem turned_mem {l : List ByteArray} {k : Nat} {s : ByteArray} : s ∈ turned l k ↔ s ∈ l := by
  unfold turned
  rw [List.mem_append, or_comm, ← List.mem_append, List.take_append_drop]
theorem turned_nodup {l : List ByteArray} (h : l.Nodup) (k : Nat) : (turned l k).Nodup := by
  unfold turned
  rw [← List.take_append_drop k l, List.nodup_append] at h
  rw [List.nodup_append]
  exact ⟨h.2.1, h.1, fun a ha b hb e => h.2.2 b hb a ha e.symm⟩

theorem fld_turned {names fs : List ByteArray} (hnd : names.Nodup) (hl : names.length = fs.length) {k : Nat} (hk : k ≤ names.length) {s : ByteArray} (hs : s ∈ names) : fld names fs s = fld (turned names k) (turned fs k) s := by
  obtain ⟨j, hj, rfl⟩ := mem_pos (turned_mem (k := k).2 hs)
  rw [fld_at (turned_nodup hnd k) (by rw [turned_length, turned_length, hl]) hj]
  rw [turned_length] at hj
  rw [turned_getD rfl hk hj, turned_getD (by rw [← hl]) hk hj]
  exact fld_at hnd hl (by unfold pos; split <;> omega)

theorem alikeB_turned {names fs : List ByteArray} (hnd : names.Nodup) (hl : names.length = fs.length) {k : Nat} (hk : k ≤ names.length) : alikeB names fs (turned names k) (turned fs k) = true :=
  alikeB_yes (turned_length _ _).symm (fun _ hs => sameB_of_eq (fld_turned hnd hl hk hs))
theorem alikeB_turned' {names fs : List ByteArray} (hnd : names.Nodup) (hl : names.length = fs.length) {k : Nat} (hk : k ≤ names.length) : alikeB (turned names k) (turned fs k) names fs = true :=
  alikeB_yes (turned_length _ _) (fun _ hs => sameB_of_eq (fld_turned hnd hl hk (turned_mem.1 hs)).symm)

/-! #### One field changed -/
theorem getD_set {fs : List ByteArray} {s : ByteArray} {i j : Nat} (hi : i < fs.length) : (fs.set j s).getD i ByteArray.empty = if i = j then s else fs.getD i ByteArray.empty := by
  rw [List.getD, List.getElem?_set]
  by_cases e : j = i
  · subst e; simp [hi]
  · rw [if_neg e, if_neg (fun h => e h.symm), ← List.getD]

theorem alikeB_set {names fs : List ByteArray} (hnd : names.Nodup) (hl : names.length = fs.length) {j : Nat} (hj : j < names.length) {s : ByteArray} :
    alikeB names fs names (fs.set j s) = (s.toList == (fs.getD j ByteArray.empty).toList) ∧ alikeB names (fs.set j s) names fs = (s.toList == (fs.getD j ByteArray.empty).toList) := by
  have hl2 : names.length = (fs.set j s).length := by simpa using hl
  have hmem : names.getD j ByteArray.empty ∈ names := by rw [List.getD, List.getElem?_eq_getElem hj]; exact List.getElem_mem hj
  have e1 : fld names fs (names.getD j ByteArray.empty) = fs.getD j ByteArray.empty := fld_at hnd hl hj
  have e2 : fld names (fs.set j s) (names.getD j ByteArray.empty) = s := by rw [fld_at hnd hl2 hj, getD_set (by omega), if_pos rfl]
  rcases Bool.eq_false_or_eq_true (s.toList == (fs.getD j ByteArray.empty).toList) with h | h
  · have e : s = fs.getD j ByteArray.empty := eq_of_toList h
    have hset : fs.set j s = fs := by
      apply List.ext_getElem?
      intro i
      rw [List.getElem?_set]
      by_cases h1 : j = i
      · subst h1
        have hj' : j < fs.length := by omega
        rw [if_pos rfl, if_pos hj', e, List.getD, List.getElem?_eq_getElem hj']; rfl
      · rw [if_neg h1]
    rw [hset, h, alikeB_self]
    exact ⟨rfl, rfl⟩
  · rw [h]
    refine ⟨alikeB_no hmem ?_, alikeB_no hmem ?_⟩
    · unfold sameB; rw [e1, e2, Bool.beq_comm]; exact h
    · unfold sameB; rw [e1, e2]; exact h

end Go.Proofs.Qxb6614335a
