/-
  The plain mathematics of 'equalFoldASCII': no Go in sight.
-/
namespace Go.Proofs.Qxb6617838a.Plain

/-- A byte's number, an ASCII capital turned small. -/
def lower (c : UInt8) : Nat := if 65 ≤ c.toNat ∧ c.toNat ≤ 90 then c.toNat + 32 else c.toNat

/-- Two texts are one but for the case of ASCII letters. -/
def eqf (a b : List UInt8) : Bool := decide (a.map lower = b.map lower)

theorem eqf_len {a b : List UInt8} (h : ¬ a.length = b.length) : eqf a b = false := by
  unfold eqf
  rw [decide_eq_false_iff_not]
  intro e
  exact h (by simpa using congrArg List.length e)

theorem eqf_comm (a b : List UInt8) : eqf a b = eqf b a := by
  unfold eqf
  by_cases h : a.map lower = b.map lower
  · simp [h]
  · have h' : ¬ b.map lower = a.map lower := fun e => h e.symm
    simp [h, h']

theorem eqf_cut (a b : List UInt8) (i : Nat) : eqf a b = (eqf (a.take i) (b.take i) && eqf (a.drop i) (b.drop i)) := by
  unfold eqf
  rw [Bool.eq_iff_iff]
  simp only [decide_eq_true_eq, Bool.and_eq_true]
  constructor
  · intro h
    refine ⟨?_, ?_⟩
    · rw [List.map_take, List.map_take, h]
    · rw [List.map_drop, List.map_drop, h]
  · rintro ⟨h1, h2⟩
    rw [← List.take_append_drop i a, ← List.take_append_drop i b, List.map_append, List.map_append, h1, h2]

/-! ### the case swapped -/
def letter (c : UInt8) : Bool := (decide (97 ≤ c.toNat) && decide (c.toNat ≤ 122)) || (decide (65 ≤ c.toNat) && decide (c.toNat ≤ 90))

def swap (c : UInt8) : UInt8 := if letter c = true then c ^^^ 32 else c

/-- The bit 32 turned in a letter. -/
theorem turn_nat (c : UInt8) (h : letter c = true) : (c ^^^ 32).toNat = if 97 ≤ c.toNat then c.toNat - 32 else c.toNat + 32 := by
  have key : ∀ n : Fin 256, letter (UInt8.ofNat n.val) = true → ((UInt8.ofNat n.val) ^^^ 32).toNat = if 97 ≤ (UInt8.ofNat n.val).toNat then (UInt8.ofNat n.val).toNat - 32 else (UInt8.ofNat n.val).toNat + 32 := by decide +kernel
  have := key ⟨c.toNat, c.toNat_lt⟩
  simp only [UInt8.ofNat_toNat] at this
  exact this h

theorem letter_iff (c : UInt8) : letter c = true ↔ (97 ≤ c.toNat ∧ c.toNat ≤ 122) ∨ (65 ≤ c.toNat ∧ c.toNat ≤ 90) := by
  unfold letter; simp

theorem lower_swap (c : UInt8) : lower (swap c) = lower c := by
  unfold swap
  split
  · rename_i h
    unfold lower
    rw [turn_nat c h]
    have := (letter_iff c).1 h
    split <;> split <;> split <;> omega
  · rfl

theorem map_swap (l : List UInt8) : (l.map swap).map lower = l.map lower := by
  rw [List.map_map]
  exact List.map_congr_left fun c _ => lower_swap c

theorem eqf_swap (l : List UInt8) : eqf l (l.map swap) = true := by
  unfold eqf; rw [map_swap]; simp

theorem eqf_swap_left (l t : List UInt8) : eqf (l.map swap) t = eqf l t := by
  unfold eqf; rw [map_swap]

/-! ### the loop -/
theorem eqf_all {a b : List UInt8} {k : Nat} (hl : a.length = b.length) (hk : a.length ≤ k) (h : (a.take k).map lower = (b.take k).map lower) : eqf a b = true := by
  unfold eqf
  rw [List.take_of_length_le hk, List.take_of_length_le (by omega)] at h
  simp [h]

theorem take_snoc (s : ByteArray) (k : Nat) (h : k < s.size) : s.data.toList.take (k + 1) = s.data.toList.take k ++ [s[k]] := by
  rw [List.take_succ_eq_append_getElem (by simpa using h)]; rfl

theorem loop_step {s t : ByteArray} {k : Nat} (hs : k < s.size) (ht : k < t.size) (h : (s.data.toList.take k).map lower = (t.data.toList.take k).map lower) (e : lower s[k] = lower t[k]) :
    (s.data.toList.take (k + 1)).map lower = (t.data.toList.take (k + 1)).map lower := by
  rw [take_snoc s k hs, take_snoc t k ht, List.map_append, List.map_append, h]; simp [e]

theorem loop_miss {s t : ByteArray} {k : Nat} (hs : k < s.size) (ht : k < t.size) (e : ¬ lower s[k] = lower t[k]) : eqf s.data.toList t.data.toList = false := by
  unfold eqf
  rw [decide_eq_false_iff_not]
  intro h
  apply e
  have h1 := congrArg (fun l => l[k]?) h
  simp only [List.getElem?_map] at h1
  rw [List.getElem?_eq_getElem (by simpa using hs), List.getElem?_eq_getElem (by simpa using ht)] at h1
  simp only [Option.map_some, Option.some.injEq] at h1
  exact h1

/-! ### one byte edited -/
def same (a b : UInt8) : Bool := decide (a = b) || (letter a && decide (a ^^^ 32 = b))

theorem toNat_eq {a b : UInt8} : a = b ↔ a.toNat = b.toNat := ⟨fun h => by rw [h], fun h => UInt8.toNat_inj.1 h⟩

theorem same_lower (a b : UInt8) : same a b = decide (lower a = lower b) := by
  rw [Bool.eq_iff_iff]
  unfold same
  simp only [Bool.or_eq_true, decide_eq_true_eq, Bool.and_eq_true]
  rw [toNat_eq]
  constructor
  · rintro (h | ⟨h1, h2⟩)
    · unfold lower; rw [h]
    · rw [toNat_eq, turn_nat a h1] at h2
      have := (letter_iff a).1 h1
      unfold lower
      rw [← h2]
      split <;> split <;> split <;> omega
  · intro h
    by_cases hl : letter a = true
    · rw [toNat_eq (b := b), turn_nat a hl]
      have := (letter_iff a).1 hl
      unfold lower at h
      by_cases e : a.toNat = b.toNat
      · exact Or.inl e
      · right
        refine ⟨hl, ?_⟩
        split at h <;> split at h <;> split <;> omega
    · have : ¬ ((97 ≤ a.toNat ∧ a.toNat ≤ 122) ∨ (65 ≤ a.toNat ∧ a.toNat ≤ 90)) := fun h => hl ((letter_iff a).2 h)
      left
      unfold lower at h
      split at h <;> split at h <;> omega

theorem eqf_set (l : List UInt8) (k : Nat) (h : k < l.length) (b : UInt8) : eqf l (l.set k b) = same l[k] b := by
  rw [same_lower]
  unfold eqf
  rw [List.map_set, Bool.eq_iff_iff]
  simp only [decide_eq_true_eq]
  constructor
  · intro e
    have h1 := congrArg (fun l => l[k]?) e
    simpa [h] using h1
  · intro e
    apply List.ext_getElem
    · simp
    · intro i h1 h2
      by_cases hi : k = i
      · subst hi; simp [e]
      · simp [hi]

end Go.Proofs.Qxb6617838a.Plain
