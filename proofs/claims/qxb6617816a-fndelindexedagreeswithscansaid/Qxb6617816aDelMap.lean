/-
  THE MAP OF PLACES as a datum: what it holds for a list of places; what 'delete' and a store make of it.
-/
import Derived.Test.Qxb6617816aDelBase
import Derived.Test.Qxb6617816aDelPlain
import Derived.Maps.OwnSet
namespace Go.Proofs.Qxb6617816a
open Go.RowKit Go.Maps
open DelPlain

/-- A name as a map's key. -/
def key (s : ByteArray) : Lit := .string s.data.toList
def i64d (n : Int) : DataW Unit := .lit (.int .i64 n)

theorem key_inj {a b : ByteArray} (h : key a = key b) : a = b := by
  unfold key at h
  simp only [Lit.string.injEq] at h
  cases a; cases b
  simp only [ByteArray.mk.injEq] at *
  exact Array.toList_inj.1 h

theorem key_ne {a b : ByteArray} (h : ¬ a = b) : key a ≠ key b := fun e => h (key_inj e)

theorem key_lit (s : ByteArray) : WideAt.IsKeyLit (key s) := by unfold key WideAt.IsKeyLit; trivial

theorem law9 : Keyed Try.prog 9 := string_keyed Try.underlying9
theorem zero3 (w : World) : (zeroValue 3).run Try.prog w = .ok (.int .i64 0) w := by kernel_rfl
theorem key9 {s : ByteArray} (h : s.size ≤ maxLen) : keyOf Try.prog 9 (.string s) = some (key s) := Go.WideMaps.keyOf_string_mk Try.underlying9 h

/-- 'D' maps each name of the list to its place, and holds nothing else. -/
structure MapsTo (D : DataW Unit) (nm : Nat → ByteArray) (L : List Nat) : Prop where
  tidy : Tidy D
  hit : ∀ p (h : p < L.length), Maps.has D (key (nm L[p])) = true ∧ D.atKey (key (nm L[p])) (i64d 0) = i64d p
  miss : ∀ s, (∀ p (h : p < L.length), ¬ nm L[p] = s) → Maps.has D (key s) = false
  size : Maps.size D = L.length

theorem MapsTo.start (nm : Nat → ByteArray) : MapsTo (.map []) nm [] :=
  ⟨tidy_empty, fun p h => by simp at h, fun _ _ => rfl, rfl⟩

/-- One name more, at the list's end. -/
theorem MapsTo.push {D : DataW Unit} {nm : Nat → ByteArray} {L : List Nat} (h : MapsTo D nm L) (i : Nat) (hi : ∀ p (h : p < L.length), ¬ nm L[p] = nm i) :
    MapsTo (D.put (key (nm i)) (i64d L.length)) nm (L ++ [i]) := by
  refine ⟨h.tidy.put (key_lit _) _, ?_, ?_, ?_⟩
  · intro p hp
    by_cases hpl : p < L.length
    · have e : (L ++ [i])[p] = L[p] := List.getElem_append_left hpl
      rw [e, has_put_other (key_ne (hi p hpl)), atKey_put_other (key_ne (hi p hpl))]
      exact h.hit p hpl
    · have e : p = L.length := by simp at hp; omega
      subst e
      have e2 : (L ++ [i])[L.length] = i := by simp
      rw [e2]
      exact ⟨has_put_same h.tidy.isMap (key_lit _) _, atKey_put_same h.tidy.isMap (key_lit _) _ _⟩
  · intro s hs
    have h1 : ¬ nm i = s := by
      have := hs L.length (by simp)
      simpa using this
    rw [has_put_other (key_ne fun e => h1 e.symm)]
    refine h.miss s fun p hp => ?_
    have := hs p (by simp; omega)
    rwa [List.getElem_append_left hp] at this
  · rw [size_put h.tidy, h.miss (nm i) hi, h.size]; simp

/-- The names of a list of places are apart. -/
def Apart (nm : Nat → ByteArray) (L : List Nat) : Prop := ∀ p q (hp : p < L.length) (hq : q < L.length), nm L[p] = nm L[q] → p = q

theorem get_delAt {L : List Nat} {p j : Nat} (hj : j < (delAt L p).length) (h1 : j < L.length) (h2 : L.length - 1 < L.length) : (delAt L p)[j] = if p = j then L[L.length - 1] else L[j] := by
  have h := delAt_get L p j (by rw [delAt_length] at hj; exact hj)
  rw [List.getElem?_eq_getElem hj] at h
  split at h
  · rename_i e; rw [if_pos e]; rw [List.getElem?_eq_getElem h2] at h; simpa using h
  · rename_i e; rw [if_neg e]; rw [List.getElem?_eq_getElem h1] at h; simpa using h

/-- The last field taken out. -/
theorem MapsTo.delLast {D : DataW Unit} {nm : Nat → ByteArray} {L : List Nat} (h : MapsTo D nm L) (ha : Apart nm L) (p : Nat) (hp : p < L.length) (hl : p = L.length - 1) :
    MapsTo (D.del (key (nm L[p]))) nm (delAt L p) := by
  refine ⟨h.tidy.del _, ?_, ?_, ?_⟩
  · intro j hj
    have hj' : j < L.length - 1 := by rw [delAt_length] at hj; exact hj
    have hjl : j < L.length := by omega
    rw [get_delAt hj hjl (by omega), if_neg (by omega)]
    have hne : ¬ nm L[j] = nm L[p] := fun e => by have := ha j p hjl hp e; omega
    rw [has_del_other (key_ne hne), atKey_del_other (key_ne hne)]
    exact h.hit j hjl
  · intro s hs
    by_cases e : nm L[p] = s
    · subst e; exact has_del_same
    · rw [has_del_other (key_ne fun e' => e e'.symm)]
      refine h.miss s fun j hj => ?_
      by_cases hjp : j = p
      · subst hjp; exact e
      · have := hs j (by rw [delAt_length]; omega)
        rwa [get_delAt (by rw [delAt_length]; omega) hj (by omega), if_neg (by omega)] at this
  · have := size_del (k := key (nm L[p])) h.tidy
    rw [(h.hit p hp).1, h.size] at this
    rw [delAt_length]
    simp at this; omega

/-- A field ahead of the last taken out: the last one laid in its place. -/
theorem MapsTo.delMid {D : DataW Unit} {nm : Nat → ByteArray} {L : List Nat} (h : MapsTo D nm L) (ha : Apart nm L) (p : Nat) (hp : p < L.length) (hl : p < L.length - 1) (h2 : L.length - 1 < L.length) :
    MapsTo ((D.del (key (nm L[p]))).put (key (nm L[L.length - 1])) (i64d p)) nm (delAt L p) := by
  have hlast : ¬ nm L[L.length - 1] = nm L[p] := fun e => by have := ha _ p h2 hp e; omega
  refine ⟨(h.tidy.del _).put (key_lit _) _, ?_, ?_, ?_⟩
  · intro j hj
    have hj' : j < L.length - 1 := by rw [delAt_length] at hj; exact hj
    have hjl : j < L.length := by omega
    rw [get_delAt hj hjl h2]
    by_cases hjp : p = j
    · subst hjp
      rw [if_pos rfl]
      exact ⟨has_put_same (h.tidy.del _).isMap (key_lit _) _, atKey_put_same (h.tidy.del _).isMap (key_lit _) _ _⟩
    · rw [if_neg hjp]
      have hne : ¬ nm L[j] = nm L[p] := fun e => by have := ha j p hjl hp e; omega
      have hne2 : ¬ nm L[j] = nm L[L.length - 1] := fun e => by have := ha j _ hjl h2 e; omega
      rw [has_put_other (key_ne hne2), atKey_put_other (key_ne hne2), has_del_other (key_ne hne), atKey_del_other (key_ne hne)]
      exact h.hit j hjl
  · intro s hs
    have hsl : ¬ nm L[L.length - 1] = s := by
      have := hs p (by rw [delAt_length]; omega)
      rwa [get_delAt (by rw [delAt_length]; omega) hp h2, if_pos rfl] at this
    rw [has_put_other (key_ne fun e => hsl e.symm)]
    by_cases e : nm L[p] = s
    · subst e; exact has_del_same
    · rw [has_del_other (key_ne fun e' => e e'.symm)]
      refine h.miss s fun j hj => ?_
      by_cases hjp : p = j
      · subst hjp; exact e
      · by_cases hjl : j = L.length - 1
        · subst hjl; exact hsl
        · have := hs j (by rw [delAt_length]; omega)
          rwa [get_delAt (by rw [delAt_length]; omega) hj h2, if_neg hjp] at this
  · have h3 := size_del (k := key (nm L[p])) h.tidy
    rw [(h.hit p hp).1, h.size] at h3
    rw [size_put (h.tidy.del _), has_del_other (key_ne hlast), (h.hit _ h2).1, delAt_length]
    simp at h3 ⊢; omega

/-- Block 'Mb' is the map of the places of 'L'. -/
def PlacesAt (w : World) (Mb : Nat) (nm : Nat → ByteArray) (L : List Nat) : Prop :=
  ∃ n D, w.ownsMap Try.prog 9 (plainElem (H := Unit) Try.prog 3) Mb n D ∧ n ≤ 100000 ∧ MapsTo D nm L

theorem own_tight {w : World} {Mb n : Nat} {D : DataW Unit} (h : w.ownsMap Try.prog 9 (plainElem (H := Unit) Try.prog 3) Mb n D) : w.ownsMap Try.prog 9 (plainElem (H := Unit) Try.prog 3) Mb (Maps.size D) D := by
  obtain ⟨es, clock, hb, F, _, hD⟩ := h
  refine ⟨es, clock, hb, F, ?_, hD⟩
  rw [hD, size_eq, length_sorted]; simp

end Go.Proofs.Qxb6617816a
