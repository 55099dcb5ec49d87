/-
  The plain side: a table as two lists, its keys and how many readers each has; 'take', 'bind' as plain functions; no Go here.
-/
namespace Go.Proofs.Qxb6627794a

/-- The first place of s in a list, or its length. -/
def ix (s : ByteArray) : List ByteArray → Nat
  | [] => 0
  | x :: l => if x.data = s.data then 0 else ix s l + 1

def isIn (s : ByteArray) (l : List ByteArray) : Bool := l.any fun x => x.data == s.data

theorem data_eq {x s : ByteArray} (h : x.data = s.data) : x = s := ByteArray.ext h

theorem isIn_iff {s : ByteArray} {l : List ByteArray} : isIn s l = true ↔ s ∈ l := by
  simp only [isIn, List.any_eq_true, beq_iff_eq]
  constructor
  · rintro ⟨x, hx, e⟩
    rw [← data_eq e]; exact hx
  · intro h
    exact ⟨s, h, rfl⟩

theorem isIn_false {s : ByteArray} {l : List ByteArray} : isIn s l = false ↔ s ∉ l := by
  rw [← isIn_iff]; simp

theorem isIn_append {s : ByteArray} {l m : List ByteArray} : isIn s (l ++ m) = (isIn s l || isIn s m) := by simp [isIn]

theorem ix_le (s : ByteArray) : ∀ l, ix s l ≤ l.length
  | [] => Nat.le_refl _
  | x :: l => by unfold ix; split <;> simp; exact ix_le s l

theorem ix_lt {s : ByteArray} : ∀ {l : List ByteArray}, s ∈ l → ix s l < l.length
  | x :: l, h => by
    unfold ix
    split
    · simp
    · rename_i hne
      have : s ∈ l := by
        rcases List.mem_cons.1 h with e | h
        · exact absurd (by rw [e]) hne
        · exact h
      simp only [List.length_cons]
      have := ix_lt this
      omega

theorem ix_get {s : ByteArray} : ∀ {l : List ByteArray}, s ∈ l → l[ix s l]? = some s
  | x :: l, h => by
    unfold ix
    split
    · rename_i e
      simp [data_eq e]
    · rename_i hne
      have : s ∈ l := by
        rcases List.mem_cons.1 h with e | h
        · exact absurd (by rw [e]) hne
        · exact h
      simpa using ix_get this

theorem ix_notin {s : ByteArray} : ∀ {l : List ByteArray}, s ∉ l → ix s l = l.length
  | [], _ => rfl
  | x :: l, h => by
    unfold ix
    split
    · rename_i e
      exact absurd (by rw [data_eq e]; simp) h
    · rw [ix_notin (fun hm => h (List.mem_cons_of_mem _ hm))]; simp

theorem ix_append_in {s : ByteArray} : ∀ {l : List ByteArray} (m : List ByteArray), s ∈ l → ix s (l ++ m) = ix s l
  | x :: l, m, h => by
    simp only [List.cons_append]
    unfold ix
    split
    · rfl
    · rename_i hne
      have : s ∈ l := by
        rcases List.mem_cons.1 h with e | h
        · exact absurd (by rw [e]) hne
        · exact h
      rw [ix_append_in m this]

theorem ix_append_new {s : ByteArray} {l : List ByteArray} (h : s ∉ l) : ix s (l ++ [s]) = l.length := by
  induction l with
  | nil => simp [ix]
  | cons x l ih =>
    simp only [List.cons_append]
    unfold ix
    rw [if_neg (fun e => h (by rw [data_eq e]; simp)), ih (fun hm => h (List.mem_cons_of_mem _ hm))]
    simp

/-- The table's keys once s has been taken. -/
def tkK (ks : List ByteArray) (s : ByteArray) : List ByteArray := if isIn s ks then ks else ks ++ [s]
/-- The readers once s has been taken. -/
def tkC (ks : List ByteArray) (cs : List Nat) (s : ByteArray) : List Nat :=
  let c0 := if isIn s ks then cs else cs ++ [0]
  c0.set (ix s ks) (c0.getD (ix s ks) 0 + 1)

theorem tkK_in {ks : List ByteArray} {s : ByteArray} (h : s ∈ ks) : tkK ks s = ks := by simp [tkK, isIn_iff.2 h]
theorem tkK_new {ks : List ByteArray} {s : ByteArray} (h : s ∉ ks) : tkK ks s = ks ++ [s] := by simp [tkK, isIn_false.2 h]
theorem tkC_in {ks : List ByteArray} {cs : List Nat} {s : ByteArray} (h : s ∈ ks) : tkC ks cs s = cs.set (ix s ks) (cs.getD (ix s ks) 0 + 1) := by simp [tkC, isIn_iff.2 h]
theorem tkC_new {ks : List ByteArray} {cs : List Nat} {s : ByteArray} (h : s ∉ ks) (hl : cs.length = ks.length) : tkC ks cs s = cs ++ [1] := by
  simp only [tkC, isIn_false.2 h, ix_notin h, ← hl]
  simp
theorem tkK_len (ks : List ByteArray) (s : ByteArray) : (tkK ks s).length ≤ ks.length + 1 := by unfold tkK; split <;> simp
theorem tk_len {ks : List ByteArray} {cs : List Nat} (s : ByteArray) (hl : cs.length = ks.length) : (tkC ks cs s).length = (tkK ks s).length := by
  by_cases h : s ∈ ks
  · rw [tkC_in h, tkK_in h]; simpa using hl
  · rw [tkC_new h hl, tkK_new h]; simpa using hl

theorem sum_set : ∀ (l : List Nat) (i : Nat), i < l.length → (l.set i (l.getD i 0 + 1)).sum = l.sum + 1
  | x :: l, 0, _ => by simp; omega
  | x :: l, i + 1, h => by
    have := sum_set l i (by simpa using h)
    simp only [List.getD_cons_succ, List.set_cons_succ, List.sum_cons]
    omega

theorem tk_sum {ks : List ByteArray} {cs : List Nat} (s : ByteArray) (hl : cs.length = ks.length) : (tkC ks cs s).sum = cs.sum + 1 := by
  by_cases h : s ∈ ks
  · rw [tkC_in h, sum_set _ _ (by rw [hl]; exact ix_lt h)]
  · rw [tkC_new h hl]; simp

theorem le_sum : ∀ (l : List Nat) (c : Nat), c ∈ l → c ≤ l.sum
  | x :: l, c, h => by
    rcases List.mem_cons.1 h with e | h
    · subst e; simp
    · have := le_sum l c h; simp; omega

/-- The table's keys, its readers, and the slots handed out, once a list of keys has been bound. -/
def bdK : List ByteArray → List ByteArray → List ByteArray
  | ks, [] => ks
  | ks, s :: l => bdK (tkK ks s) l
def bdC : List ByteArray → List Nat → List ByteArray → List Nat
  | _, cs, [] => cs
  | ks, cs, s :: l => bdC (tkK ks s) (tkC ks cs s) l
def bdS : List ByteArray → List ByteArray → List Nat
  | _, [] => []
  | ks, s :: l => ix s ks :: bdS (tkK ks s) l

theorem bdK_append : ∀ (ks l m : List ByteArray), bdK ks (l ++ m) = bdK (bdK ks l) m
  | _, [], _ => rfl
  | ks, s :: l, m => bdK_append (tkK ks s) l m
theorem bdC_append : ∀ (ks : List ByteArray) (cs : List Nat) (l m : List ByteArray), bdC ks cs (l ++ m) = bdC (bdK ks l) (bdC ks cs l) m
  | _, _, [], _ => rfl
  | ks, cs, s :: l, m => bdC_append (tkK ks s) (tkC ks cs s) l m
theorem bdS_append : ∀ (ks l m : List ByteArray), bdS ks (l ++ m) = bdS ks l ++ bdS (bdK ks l) m
  | _, [], _ => rfl
  | ks, s :: l, m => by simp only [List.cons_append, bdS, bdK, bdS_append (tkK ks s) l m]
theorem bdS_len : ∀ (ks l : List ByteArray), (bdS ks l).length = l.length
  | _, [] => rfl
  | ks, s :: l => by simp [bdS, bdS_len (tkK ks s) l]
theorem bdK_len : ∀ (ks l : List ByteArray), (bdK ks l).length ≤ ks.length + l.length
  | _, [] => Nat.le_refl _
  | ks, s :: l => by
    have h1 := bdK_len (tkK ks s) l
    have h2 := tkK_len ks s
    simp only [bdK, List.length_cons]
    omega
theorem bd_len : ∀ (ks : List ByteArray) (cs : List Nat) (l : List ByteArray), cs.length = ks.length → (bdC ks cs l).length = (bdK ks l).length
  | _, _, [], h => h
  | _, _, s :: l, h => bd_len _ _ l (tk_len s h)
theorem bd_sum : ∀ (ks : List ByteArray) (cs : List Nat) (l : List ByteArray), cs.length = ks.length → (bdC ks cs l).sum = cs.sum + l.length
  | _, _, [], _ => rfl
  | ks, cs, s :: l, h => by
    simp only [bdC, List.length_cons]
    rw [bd_sum _ _ l (tk_len s h), tk_sum s h]
    omega

theorem take_snoc' {α : Type} {l : List α} {k : Nat} {s : α} (hs : l[k]? = some s) : l.take (k + 1) = l.take k ++ [s] := by
  rw [List.take_add_one, hs]; rfl
theorem bdK_step {ks ss : List ByteArray} {k : Nat} {s : ByteArray} (hs : ss[k]? = some s) : bdK ks (ss.take (k + 1)) = tkK (bdK ks (ss.take k)) s := by
  rw [take_snoc' hs, bdK_append]; rfl
theorem bdC_step {ks ss : List ByteArray} {cs : List Nat} {k : Nat} {s : ByteArray} (hs : ss[k]? = some s) : bdC ks cs (ss.take (k + 1)) = tkC (bdK ks (ss.take k)) (bdC ks cs (ss.take k)) s := by
  rw [take_snoc' hs, bdC_append]; rfl
theorem bdS_step {ks ss : List ByteArray} {k : Nat} {s : ByteArray} (hs : ss[k]? = some s) : bdS ks (ss.take (k + 1)) = bdS ks (ss.take k) ++ [ix s (bdK ks (ss.take k))] := by
  rw [take_snoc' hs, bdS_append]; rfl

theorem tkK_pre (ks : List ByteArray) (s : ByteArray) : ks <+: tkK ks s := by
  unfold tkK; split
  · exact List.prefix_refl _
  · exact List.prefix_append _ _
theorem bdK_pre : ∀ (ks l : List ByteArray), ks <+: bdK ks l
  | _, [] => List.prefix_refl _
  | ks, s :: l => (tkK_pre ks s).trans (bdK_pre (tkK ks s) l)
theorem tkK_at (ks : List ByteArray) (s : ByteArray) : (tkK ks s)[ix s ks]? = some s := by
  by_cases h : s ∈ ks
  · rw [tkK_in h]; exact ix_get h
  · rw [tkK_new h, ix_notin h]; simp
theorem pre_get {α : Type} {l m : List α} {i : Nat} {x : α} (h : l <+: m) (hx : l[i]? = some x) : m[i]? = some x := by
  obtain ⟨r, rfl⟩ := h
  rw [List.getElem?_append_left (List.getElem?_eq_some_iff.1 hx).1]; exact hx

/-- Each slot that is handed out names its own key. -/
theorem slot_names : ∀ (ks l : List ByteArray) (i : Nat) (s : ByteArray), l[i]? = some s → ∃ x, (bdS ks l)[i]? = some x ∧ (bdK ks l)[x]? = some s
  | ks, t :: l, 0, s, h => by
    simp at h; subst h
    exact ⟨ix t ks, rfl, pre_get (bdK_pre (tkK ks t) l) (tkK_at ks t)⟩
  | ks, t :: l, i + 1, s, h => by
    obtain ⟨x, h1, h2⟩ := slot_names (tkK ks t) l i s (by simpa using h)
    exact ⟨x, by simpa [bdS] using h1, h2⟩

theorem mem_set {l : List Nat} {i a x : Nat} (h : x ∈ l.set i a) : x ∈ l ∨ x = a := List.mem_or_eq_of_mem_set h

theorem tkC_pos {ks : List ByteArray} {cs : List Nat} (s : ByteArray) (hl : cs.length = ks.length) (h : ∀ c ∈ cs, 1 ≤ c) : ∀ c ∈ tkC ks cs s, 1 ≤ c := by
  by_cases hs : s ∈ ks
  · rw [tkC_in hs]
    intro c hc
    rcases mem_set hc with h1 | h1
    · exact h c h1
    · omega
  · rw [tkC_new hs hl]
    intro c hc
    rcases List.mem_append.1 hc with h1 | h1
    · exact h c h1
    · simp at h1; omega
theorem bdC_pos : ∀ (ks : List ByteArray) (cs : List Nat) (l : List ByteArray), cs.length = ks.length → (∀ c ∈ cs, 1 ≤ c) → ∀ c ∈ bdC ks cs l, 1 ≤ c
  | _, _, [], _, h => h
  | _, _, s :: l, hl, h => bdC_pos _ _ l (tk_len s hl) (tkC_pos s hl h)

theorem split_left {ss : List ByteArray} {c i x : Nat} (h : (bdS [] ss)[i]? = some x) (hi : i < c) : (bdS [] (ss.take c))[i]? = some x := by
  have e : bdS [] ss = bdS [] (ss.take c) ++ bdS (bdK [] (ss.take c)) (ss.drop c) := by rw [← bdS_append, List.take_append_drop]
  have hl : i < ss.length := by rw [← bdS_len [] ss]; exact (List.getElem?_eq_some_iff.1 h).1
  rw [e, List.getElem?_append_left (by rw [bdS_len, List.length_take]; omega)] at h
  exact h
theorem split_right {ss : List ByteArray} {c i x : Nat} (hc : c ≤ ss.length) (h : (bdS [] ss)[i]? = some x) (hi : c ≤ i) : (bdS (bdK [] (ss.take c)) (ss.drop c))[i - c]? = some x := by
  have e : bdS [] ss = bdS [] (ss.take c) ++ bdS (bdK [] (ss.take c)) (ss.drop c) := by rw [← bdS_append, List.take_append_drop]
  have hl : (bdS [] (ss.take c)).length = c := by rw [bdS_len, List.length_take]; omega
  rw [e, List.getElem?_append_right (by omega), hl] at h
  exact h

theorem sum_take_succ {l : List Nat} {j x : Nat} (h : l[j]? = some x) : (l.take (j + 1)).sum = (l.take j).sum + x := by
  rw [List.take_add_one, h]; simp
theorem sum_take_le : ∀ (l : List Nat) (j : Nat), (l.take j).sum ≤ l.sum
  | [], j => by simp
  | x :: l, 0 => by simp
  | x :: l, j + 1 => by have := sum_take_le l j; simp; omega

theorem getD_le_sum : ∀ (l : List Nat) (j : Nat), l.getD j 0 ≤ l.sum
  | [], j => by simp
  | x :: l, 0 => by simp
  | x :: l, j + 1 => by have := getD_le_sum l j; simp only [List.getD_cons_succ, List.sum_cons]; omega

end Go.Proofs.Qxb6627794a
