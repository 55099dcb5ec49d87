/-
  The plain side, more: first places, how often a key stands in a list; no Go here.
-/
import Derived.Test.Qxb6627794aPlain
namespace Go.Proofs.Qxb6627794a

theorem ix_first : ∀ {l : List ByteArray} {k : Nat} {s : ByteArray}, (∀ j, j < k → l[j]? ≠ some s) → l[k]? = some s → ix s l = k
  | x :: l, 0, s, _, h => by
    simp at h
    simp [ix, h]
  | x :: l, k + 1, s, hn, h => by
    have h0 := hn 0 (by omega)
    have hne : ¬ x.data = s.data := fun e => h0 (by rw [data_eq e]; rfl)
    have := ix_first (l := l) (k := k) (s := s) (fun j hj => by have := hn (j + 1) (by omega); simpa using this) (by simpa using h)
    unfold ix
    rw [if_neg hne, this]

/-- What zzIndexOf answers. -/
def zx (s : ByteArray) (l : List ByteArray) : Int := if isIn s l then (ix s l : Int) else -1

theorem zx_in {s : ByteArray} {l : List ByteArray} (h : s ∈ l) : zx s l = (ix s l : Int) := by simp [zx, isIn_iff.2 h]
theorem zx_out {s : ByteArray} {l : List ByteArray} (h : s ∉ l) : zx s l = -1 := by simp [zx, isIn_false.2 h]
theorem mem_tkK (ks : List ByteArray) (s : ByteArray) : s ∈ tkK ks s := List.mem_of_getElem? (tkK_at ks s)
theorem ix_tkK (ks : List ByteArray) (s : ByteArray) : ix s (tkK ks s) = ix s ks := by
  by_cases h : s ∈ ks
  · rw [tkK_in h]
  · rw [tkK_new h, ix_append_new h, ix_notin h]
theorem ix_pre {s : ByteArray} {l m : List ByteArray} (hp : l <+: m) (h : s ∈ l) : ix s m = ix s l := by
  obtain ⟨r, rfl⟩ := hp
  exact ix_append_in r h
/-- Each slot that is handed out is its key's first place among the table's keys. -/
theorem slot_ix : ∀ (ks l : List ByteArray) (i : Nat) (s : ByteArray), l[i]? = some s → (bdS ks l)[i]? = some (ix s (bdK ks l)) ∧ s ∈ bdK ks l
  | ks, t :: l, 0, s, h => by
    simp at h; subst h
    have hp := bdK_pre (tkK ks t) l
    refine ⟨?_, hp.subset (mem_tkK ks t)⟩
    show some (ix t ks) = some (ix t (bdK (tkK ks t) l))
    rw [ix_pre hp (mem_tkK ks t), ix_tkK]
  | ks, t :: l, i + 1, s, h => by
    obtain ⟨h1, h2⟩ := slot_ix (tkK ks t) l i s (by simpa using h)
    exact ⟨by simpa [bdS, bdK] using h1, h2⟩

theorem tkK_nodup {ks : List ByteArray} (s : ByteArray) (h : ks.Nodup) : (tkK ks s).Nodup := by
  by_cases hs : s ∈ ks
  · rw [tkK_in hs]; exact h
  · rw [tkK_new hs]
    refine List.nodup_append.2 ⟨h, by simp, ?_⟩
    intro a ha b hb e
    simp at hb
    subst hb; subst e
    exact hs ha
theorem bdK_nodup : ∀ (ks l : List ByteArray), ks.Nodup → (bdK ks l).Nodup
  | _, [], h => h
  | ks, s :: l, h => bdK_nodup (tkK ks s) l (tkK_nodup s h)
theorem ix_nodup {l : List ByteArray} (h : l.Nodup) {j : Nat} {s : ByteArray} (hs : l[j]? = some s) : ix s l = j := by
  refine ix_first (fun i hi e => ?_) hs
  have h1 := (List.getElem?_eq_some_iff.1 e)
  have h2 := (List.getElem?_eq_some_iff.1 hs)
  obtain ⟨p1, e1⟩ := h1
  obtain ⟨p2, e2⟩ := h2
  exact (List.pairwise_iff_getElem.1 h i j p1 p2 hi) (e1.trans e2.symm)

/-- How often s stands in a list. -/
def occ (s : ByteArray) : List ByteArray → Nat
  | [] => 0
  | x :: l => (if x.data = s.data then 1 else 0) + occ s l
theorem occ_append (s : ByteArray) : ∀ (l m : List ByteArray), occ s (l ++ m) = occ s l + occ s m
  | [], m => by simp [occ]
  | x :: l, m => by simp only [List.cons_append, occ, occ_append s l m]; omega
theorem occ_snoc_same (s : ByteArray) (l : List ByteArray) : occ s (l ++ [s]) = occ s l + 1 := by rw [occ_append]; simp [occ]
theorem occ_snoc_other {s t : ByteArray} (l : List ByteArray) (h : t ≠ s) : occ s (l ++ [t]) = occ s l := by
  rw [occ_append]
  have : ¬ t.data = s.data := fun e => h (data_eq e)
  simp [occ, this]
theorem occ_zero {s : ByteArray} : ∀ {l : List ByteArray}, s ∉ l → occ s l = 0
  | [], _ => rfl
  | x :: l, h => by
    have h1 : ¬ x.data = s.data := fun e => h (by rw [data_eq e]; simp)
    simp [occ, h1, occ_zero (fun hm => h (List.mem_cons_of_mem _ hm))]

/-- The readers count how often each key has been read. -/
def Counts (ks : List ByteArray) (cs : List Nat) (l : List ByteArray) : Prop := cs.length = ks.length ∧ ks.Nodup ∧ (∀ s, s ∈ l → s ∈ ks) ∧ ∀ (j : Nat) s, ks[j]? = some s → cs[j]? = some (occ s l)

theorem Counts.step {ks : List ByteArray} {cs : List Nat} {l : List ByteArray} (h : Counts ks cs l) (s : ByteArray) : Counts (tkK ks s) (tkC ks cs s) (l ++ [s]) := by
  obtain ⟨hl, hn, hm, hc⟩ := h
  refine ⟨tk_len s hl, tkK_nodup s hn, ?_, ?_⟩
  · intro x hx
    rcases List.mem_append.1 hx with hx | hx
    · exact (tkK_pre ks s).subset (hm x hx)
    · simp at hx; subst hx; exact mem_tkK ks x
  · intro j x hx
    by_cases hs : s ∈ ks
    · rw [tkK_in hs] at hx
      rw [tkC_in hs]
      by_cases e : x = s
      · subst e
        have hj := ix_nodup hn hx
        rw [hj, occ_snoc_same]
        have h1 := hc j x hx
        have hlt := (List.getElem?_eq_some_iff.1 h1).1
        rw [List.getElem?_set_self hlt]
        simp [h1]
      · have hj : ix s ks ≠ j := fun e' => e (by have := ix_get hs; rw [e', hx] at this; exact Option.some.inj this)
        rw [List.getElem?_set_ne hj, occ_snoc_other l (fun e' => e e'.symm)]
        exact hc j x hx
    · rw [tkK_new hs] at hx
      rw [tkC_new hs hl]
      by_cases hj : j < ks.length
      · rw [List.getElem?_append_left hj] at hx
        rw [List.getElem?_append_left (by omega), occ_snoc_other l (fun e => hs (by rw [e]; exact List.mem_of_getElem? hx))]
        exact hc j x hx
      · rw [List.getElem?_append_right (by omega)] at hx
        rw [List.getElem?_append_right (by omega)]
        have hj0 : j - ks.length = 0 := by
          have := (List.getElem?_eq_some_iff.1 hx).1
          simp at this; omega
        rw [hj0] at hx
        simp at hx
        subst hx
        rw [hl, hj0, occ_snoc_same, occ_zero (fun h' => hs (hm _ h'))]
        rfl

theorem Counts.bind : ∀ {ks : List ByteArray} {cs : List Nat} {l : List ByteArray} (m : List ByteArray), Counts ks cs l → Counts (bdK ks m) (bdC ks cs m) (l ++ m)
  | _, _, l, [], h => by simpa [bdK, bdC] using h
  | ks, cs, l, s :: m, h => by
    have := (h.step s).bind m
    simpa [bdK, bdC] using this
theorem Counts.empty : Counts [] [] [] := ⟨rfl, List.nodup_nil, by simp, by simp⟩

theorem mem_bdK : ∀ {ks l : List ByteArray} {s : ByteArray}, s ∈ bdK ks l → s ∈ ks ∨ s ∈ l
  | _, [], _, h => .inl h
  | ks, t :: l, s, h => by
    rcases mem_bdK (ks := tkK ks t) (l := l) h with h | h
    · by_cases ht : t ∈ ks
      · rw [tkK_in ht] at h; exact .inl h
      · rw [tkK_new ht] at h
        rcases List.mem_append.1 h with h | h
        · exact .inl h
        · simp at h; subst h; exact .inr (by simp)
    · exact .inr (List.mem_cons_of_mem _ h)

theorem occ_step_same {s : ByteArray} {l : List ByteArray} {k : Nat} (h : l[k]? = some s) : occ s (l.take (k + 1)) = occ s (l.take k) + 1 := by
  rw [take_snoc' h, occ_snoc_same]
theorem occ_step_other {s x : ByteArray} {l : List ByteArray} {k : Nat} (h : l[k]? = some x) (hne : x ≠ s) : occ s (l.take (k + 1)) = occ s (l.take k) := by
  rw [take_snoc' h, occ_snoc_other _ hne]
theorem occ_le (s : ByteArray) : ∀ l : List ByteArray, occ s l ≤ l.length
  | [] => Nat.le_refl _
  | x :: l => by have := occ_le s l; simp only [occ, List.length_cons]; split <;> omega

end Go.Proofs.Qxb6627794a
