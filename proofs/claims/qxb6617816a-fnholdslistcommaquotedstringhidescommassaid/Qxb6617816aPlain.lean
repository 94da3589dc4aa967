/-
  The plain mathematics of 'holdsListComma': no Go in sight.
  States: 0 outside a quoted string; 1 inside; 2 inside, behind a backslash; 3 a list comma was met.
-/
namespace Go.Proofs.Qxb6617816a.Plain

def step (st : Nat) (c : UInt8) : Nat :=
  if st = 0 then (if c.toNat = 34 then 1 else if c.toNat = 44 then 3 else 0)
  else if st = 1 then (if c.toNat = 34 then 0 else if c.toNat = 92 then 2 else 1)
  else if st = 2 then 1 else st

def run (l : List UInt8) : Nat := l.foldl step 0

/-- The value 'l' holds a comma outside a quoted string. -/
def holds (l : List UInt8) : Bool := decide (run l = 3)

theorem run_append (a b : List UInt8) : run (a ++ b) = b.foldl step (run a) := by
  unfold run; rw [List.foldl_append]

theorem stay3 (b : List UInt8) : b.foldl step 3 = 3 := by
  induction b with
  | nil => rfl
  | cons c r ih => rw [List.foldl_cons]; exact ih

theorem holds_append_left {a : List UInt8} (b : List UInt8) (h : holds a = true) : holds (a ++ b) = true := by
  unfold holds at *
  have h3 : run a = 3 := by simpa using h
  rw [run_append, h3, stay3]; rfl

/-- 'l' holds the byte 'n'. -/
def has (n : Nat) (l : List UInt8) : Bool := l.any fun c => c.toNat == n

theorem foldl_plain (l : List UInt8) (h : has 34 l = false) : l.foldl step 0 = if has 44 l = true then 3 else 0 := by
  induction l with
  | nil => rfl
  | cons c r ih =>
    unfold has at h ih ⊢
    rw [List.any_cons] at h ⊢
    rw [Bool.or_eq_false_iff] at h
    have hc : ¬ c.toNat = 34 := by simpa using h.1
    rw [List.foldl_cons]
    by_cases h44 : c.toNat = 44
    · have e : step 0 c = 3 := by simp [step, h44]
      rw [e, stay3]; simp [h44]
    · have e : step 0 c = 0 := by simp [step, h44, hc]
      rw [e, ih h.2]; simp [h44]

theorem holds_plain {a : List UInt8} (h : has 34 a = false) : holds a = has 44 a := by
  unfold holds run
  rw [foldl_plain a h]
  cases has 44 a <;> rfl

theorem holds_append_plain {a : List UInt8} (b : List UInt8) (h : has 34 a = false) : holds (a ++ b) = (holds a || holds b) := by
  rw [holds_plain h]
  unfold holds
  rw [run_append]
  unfold run
  rw [foldl_plain a h]
  cases has 44 a
  · simp
  · simp [stay3]

/-! ### the loop's walk: the state behind the first 'k' bytes -/

theorem take_snoc (s : ByteArray) (k : Nat) (h : k < s.size) : s.data.toList.take (k + 1) = s.data.toList.take k ++ [s[k]] := by
  rw [List.take_succ_eq_append_getElem (by simpa using h)]; rfl

theorem run_snoc (s : ByteArray) (k : Nat) (h : k < s.size) : run (s.data.toList.take (k + 1)) = step (run (s.data.toList.take k)) s[k] := by
  rw [take_snoc s k h, run_append]; rfl

def b2n (q : Bool) : Nat := if q then 1 else 0

/-- What holds at the loop's head: the counter 'k', the flag 'q'. -/
def Inv (s : ByteArray) (k : Nat) (q : Bool) : Prop :=
  (k ≤ s.size ∧ run (s.data.toList.take k) = b2n q) ∨ (k = s.size + 1 ∧ run s.data.toList = 2)

theorem take_all (s : ByteArray) : s.data.toList.take s.size = s.data.toList := by
  rw [List.take_of_length_le]; simp

theorem Inv.start (s : ByteArray) : Inv s 0 false := Or.inl ⟨Nat.zero_le _, rfl⟩

theorem Inv.le {s : ByteArray} {k : Nat} {q : Bool} (h : Inv s k q) : k ≤ s.size + 1 := by
  rcases h with h | h <;> omega

theorem Inv.out {s : ByteArray} {k : Nat} {q : Bool} (h : Inv s k q) (hk : ¬ k < s.size) : holds s.data.toList = false := by
  unfold holds
  rcases h with ⟨h1, h2⟩ | ⟨_, h2⟩
  · have : k = s.size := by omega
    subst this
    rw [take_all] at h2; rw [h2]; cases q <;> rfl
  · rw [h2]; rfl

theorem Inv.state {s : ByteArray} {k : Nat} {q : Bool} (h : Inv s k q) (hk : k < s.size) : run (s.data.toList.take k) = b2n q := by
  rcases h with ⟨_, h2⟩ | ⟨h1, _⟩
  · exact h2
  · omega

theorem Inv.quote {s : ByteArray} {k : Nat} {q : Bool} (h : Inv s k q) (hk : k < s.size) (hc : s[k].toNat = 34) : Inv s (k + 1) (!q) := by
  refine Or.inl ⟨hk, ?_⟩
  rw [run_snoc s k hk, h.state hk]
  cases q <;> simp [step, b2n, hc]

theorem Inv.comma {s : ByteArray} {k : Nat} (h : Inv s k false) (hk : k < s.size) (hc : s[k].toNat = 44) : holds s.data.toList = true := by
  have e : run (s.data.toList.take (k + 1)) = 3 := by
    rw [run_snoc s k hk, h.state hk]; simp [step, b2n, hc]
  unfold holds
  rw [← List.take_append_drop (k + 1) s.data.toList, run_append, e, stay3]; rfl

theorem Inv.other {s : ByteArray} {k : Nat} {q : Bool} (h : Inv s k q) (hk : k < s.size) (h1 : ¬ s[k].toNat = 34) (h2 : q = true → ¬ s[k].toNat = 92) (h3 : q = false → ¬ s[k].toNat = 44) : Inv s (k + 1) q := by
  refine Or.inl ⟨hk, ?_⟩
  rw [run_snoc s k hk, h.state hk]
  cases q
  · simp [step, b2n, h1, h3 rfl]
  · simp [step, b2n, h1, h2 rfl]

theorem Inv.skip {s : ByteArray} {k : Nat} (h : Inv s k true) (hk : k < s.size) (hc : s[k].toNat = 92) : Inv s (k + 2) true := by
  have e : run (s.data.toList.take (k + 1)) = 2 := by
    rw [run_snoc s k hk, h.state hk]; simp [step, b2n, hc]
  by_cases hk1 : k + 1 < s.size
  · refine Or.inl ⟨hk1, ?_⟩
    rw [run_snoc s (k + 1) hk1, e]; rfl
  · have : k + 1 = s.size := by omega
    refine Or.inr ⟨by omega, ?_⟩
    rw [this, take_all] at e; exact e

/-! ### the quoted string -/

def esc : List UInt8 → List UInt8
  | [] => []
  | c :: r => (if c.toNat = 34 ∨ c.toNat = 92 then [92, c] else [c]) ++ esc r

def quote (l : List UInt8) : List UInt8 := 34 :: (esc l ++ [34])

theorem esc_append (a b : List UInt8) : esc (a ++ b) = esc a ++ esc b := by
  induction a with
  | nil => rfl
  | cons c r ih => simp only [List.cons_append, esc, ih, List.append_assoc]

theorem esc_len (l : List UInt8) : (esc l).length ≤ 2 * l.length := by
  induction l with
  | nil => simp [esc]
  | cons c r ih =>
    simp only [esc, List.length_append, List.length_cons]
    split <;> simp <;> omega

theorem foldl_esc (l : List UInt8) : (esc l).foldl step 1 = 1 := by
  induction l with
  | nil => rfl
  | cons c r ih =>
    simp only [esc, List.foldl_append]
    split
    · simp only [List.foldl_cons, List.foldl_nil]
      have e : step (step 1 92) c = 1 := by simp [step]
      rw [e, ih]
    · rename_i h
      simp only [List.foldl_cons, List.foldl_nil]
      have e : step 1 c = 1 := by simp only [not_or] at h; simp [step, h.1, h.2]
      rw [e, ih]

theorem run_quote (l : List UInt8) : run (quote l) = 0 := by
  unfold quote run
  rw [List.foldl_cons, List.foldl_append]
  have e : step 0 34 = 1 := by decide
  rw [e, foldl_esc]; decide

theorem holds_quote (l : List UInt8) : holds (quote l) = false := by
  unfold holds; rw [run_quote]; rfl

theorem holds_quote_append (l t : List UInt8) : holds (quote l ++ t) = holds t := by
  unfold holds; rw [run_append, run_quote]; rfl

theorem holds_quote_comma (l t : List UInt8) : holds (quote l ++ [44] ++ t) = true := by
  unfold holds; rw [run_append, run_append, run_quote]
  have e : List.foldl step 0 [44] = 3 := by decide
  rw [e, stay3]; rfl

end Go.Proofs.Qxb6617816a.Plain
