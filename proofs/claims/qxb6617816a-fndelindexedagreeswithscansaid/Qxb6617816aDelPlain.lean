/-
  The plain mathematics of 'Fields.Del' on lists of places: no Go in sight. A list of fields is a list of numbers: the places that its fields had at first.
-/
namespace Go.Proofs.Qxb6617816a.DelPlain

/-- The field at 'p' taken out: the last one laid in its place. -/
def delAt (L : List Nat) (p : Nat) : List Nat := (L.set p (L.getLastD 0)).dropLast

theorem delAt_length (L : List Nat) (p : Nat) : (delAt L p).length = L.length - 1 := by simp [delAt]

theorem getLastD_eq (L : List Nat) (h : 0 < L.length) : L.getLastD 0 = L[L.length - 1] := by
  cases L with
  | nil => simp at h
  | cons a r => rw [List.getLastD_cons, List.getLastD_eq_getLast?, List.getLast?_eq_getElem?]; cases r with
    | nil => rfl
    | cons b r => simp

theorem delAt_get (L : List Nat) (p j : Nat) (hj : j < L.length - 1) : (delAt L p)[j]? = if p = j then L[L.length - 1]? else L[j]? := by
  unfold delAt
  rw [List.getElem?_dropLast, if_pos (by simpa using hj), List.getElem?_set]
  split
  · rw [if_pos (by omega), getLastD_eq L (by omega), List.getElem?_eq_getElem]
  · rfl

theorem delAt_perm (L : List Nat) (p : Nat) (hp : p < L.length) : (delAt L p).Perm (L.eraseIdx p) := by
  obtain ⟨A, x, rfl⟩ : ∃ A x, L = A ++ [x] := by
    have h : L ≠ [] := by intro e; subst e; simp at hp
    exact ⟨L.dropLast, L.getLast h, (List.dropLast_concat_getLast h).symm⟩
  have hx : (A ++ [x]).getLastD 0 = x := by simp
  unfold delAt
  rw [hx]
  by_cases hA : p < A.length
  · rw [List.set_append_left _ _ hA, List.dropLast_concat, List.eraseIdx_append_of_lt_length hA]
    rw [List.set_eq_take_append_cons_drop, if_pos hA, List.eraseIdx_eq_take_drop_succ, List.append_assoc]
    exact List.Perm.append_left _ (List.perm_append_singleton x _).symm
  · have e : p = A.length := by simp at hp; omega
    subst e
    rw [List.eraseIdx_append_of_length_le (Nat.le_refl _)]
    simp

theorem eraseIdx_filter : ∀ (L : List Nat) (_ : L.Nodup) (p : Nat) (hp : p < L.length), L.eraseIdx p = L.filter (fun i => i != L[p])
  | [], _, p, hp => by simp at hp
  | a :: r, hn, 0, _ => by
    rw [List.nodup_cons] at hn
    simp only [List.eraseIdx_zero, List.tail_cons, List.getElem_cons_zero, List.filter_cons, bne_self_eq_false, Bool.false_eq_true, if_false]
    symm
    rw [List.filter_eq_self]
    intro b hb
    simp only [bne_iff_ne, ne_eq]
    intro e; subst e; exact hn.1 hb
  | a :: r, hn, p + 1, hp => by
    rw [List.nodup_cons] at hn
    have hp' : p < r.length := by simpa using hp
    have hne : (a != r[p]) = true := by
      simp only [bne_iff_ne, ne_eq]
      intro e; exact hn.1 (e ▸ List.getElem_mem hp')
    simp only [List.eraseIdx_cons_succ, List.getElem_cons_succ, List.filter_cons, hne, if_true]
    rw [eraseIdx_filter r hn.2 p hp']

/-- The script's invariant: 'n' fields at first, 'b i': the script so far holds the name of field 'i'. -/
def Inv (n : Nat) (b : Nat → Bool) (L : List Nat) : Prop :=
  L.Perm ((List.range n).filter fun i => !b i) ∧ ∀ j, j < n → (∀ i, i ≤ j → b i = false) → L[j]? = some j

theorem Inv.start (n : Nat) (b : Nat → Bool) (hb : ∀ i, b i = false) : Inv n b (List.range n) := by
  refine ⟨?_, fun j hj _ => by rw [List.getElem?_range hj]⟩
  rw [List.filter_eq_self.2 (by intro i _; simp [hb])]

theorem Inv.nodup {n : Nat} {b : Nat → Bool} {L : List Nat} (h : Inv n b L) : L.Nodup :=
  h.1.nodup_iff.2 (List.nodup_range.filter _)

theorem Inv.mem {n : Nat} {b : Nat → Bool} {L : List Nat} (h : Inv n b L) (i : Nat) : i ∈ L ↔ i < n ∧ b i = false := by
  rw [h.1.mem_iff, List.mem_filter, List.mem_range]; simp

theorem Inv.length {n : Nat} {b : Nat → Bool} {L : List Nat} (h : Inv n b L) : L.length = ((List.range n).filter fun i => !b i).length := h.1.length_eq

theorem Inv.le {n : Nat} {b : Nat → Bool} {L : List Nat} (h : Inv n b L) : L.length ≤ n := by
  rw [h.length]; exact Nat.le_trans (List.length_filter_le _ _) (by simp)

/-- A name that no field has left. -/
theorem Inv.miss {n : Nat} {b b' : Nat → Bool} {L : List Nat} (h : Inv n b L) (hb : ∀ i, b i = true → b' i = true) (hm : ∀ i, i ∈ L → b' i = false) : Inv n b' L := by
  refine ⟨?_, fun j hj hi => h.2 j hj fun i hij => ?_⟩
  · have e : (List.range n).filter (fun i => !b' i) = (List.range n).filter fun i => !b i := by
      apply List.filter_congr
      intro i hi
      cases hbi : b i
      · rw [hm i ((h.mem i).2 ⟨by simpa using hi, hbi⟩)]
      · rw [hb i hbi]
    rw [e]; exact h.1
  · cases hbi : b i
    · rfl
    · have := hb i hbi; rw [hi i hij] at this; cases this

/-- The name of the field at 'p'. -/
theorem Inv.hit {n : Nat} {b b' : Nat → Bool} {L : List Nat} (h : Inv n b L) (p : Nat) (hp : p < L.length) (hb : ∀ i, i < n → b' i = (b i || i == L[p])) : Inv n b' (delAt L p) := by
  have hLp : L[p] < n := ((h.mem _).1 (List.getElem_mem hp)).1
  refine ⟨?_, fun j hj hi => ?_⟩
  · refine (delAt_perm L p hp).trans ?_
    rw [eraseIdx_filter L h.nodup p hp]
    have e : (List.range n).filter (fun i => !b' i) = ((List.range n).filter fun i => !b i).filter fun i => i != L[p] := by
      rw [List.filter_filter]
      apply List.filter_congr
      intro i hi
      rw [hb i (by simpa using hi)]
      cases b i <;> simp [bne]
    rw [e]
    exact h.1.filter _
  · have hbL : b' L[p] = true := by rw [hb _ hLp]; simp
    have key : ∀ i, i ≤ j → L[i]? = some i := fun i hij => h.2 i (by omega) fun i' hi' => by
      have := hi i' (by omega)
      rw [hb i' (by omega)] at this
      revert this; cases b i' <;> simp
    have hpj : j < p := by
      rcases Nat.lt_or_ge j p with h1 | h1
      · exact h1
      · have h2 := key p h1
        rw [List.getElem?_eq_getElem hp] at h2
        have h3 : L[p] = p := by simpa using h2
        have := hi p h1
        rw [h3] at hbL
        rw [hbL] at this; cases this
    rw [delAt_get L p j (by omega), if_neg (by omega)]
    exact key j (Nat.le_refl _)

end Go.Proofs.Qxb6617816a.DelPlain
