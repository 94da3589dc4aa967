/-
  What the three stores of (*Fields).Del leave of the list.
-/
import Derived.Test.Qxb6617816aDelIndex
namespace Go.Proofs.Qxb6617816a
open Go.RowKit Go.Maps
open DelPlain

theorem free_block {w : World} {b j : Nat} {cur : Array Value} {t : TypeId} (h : w.heap[b]? = some (.cells cur t (0, 0))) : w.frozen? ⟨b, j, none⟩ = false := by
  simp [World.frozen?, h]

/-- The world behind the list's three stores. -/
def struck (w : World) (Fb Lb cap p q : Nat) (n1 : ByteArray) (a1 : Option Addr) (l1 k1 : Nat) : World :=
  ((((w.setCell ⟨Lb, p * 2, none⟩ (.string n1)).setCell ⟨Lb, p * 2 + 1, none⟩ (.slice a1 l1 k1)).setCell ⟨Lb, q * 2, none⟩ (.string ⟨#[]⟩)).setCell ⟨Lb, q * 2 + 1, none⟩ (.slice none 0 0)).setCell ⟨Fb, 0, none⟩ (.slice (some ⟨Lb, 0, none⟩) q cap)

theorem struck_heap {w : World} {Fb Lb cap p q : Nat} {n1 : ByteArray} {a1 : Option Addr} {l1 k1 : Nat} (k : Nat) (h1 : k ≠ Fb) (h2 : k ≠ Lb) : (struck w Fb Lb cap p q n1 a1 l1 k1).heap[k]? = w.heap[k]? := by
  unfold struck
  rw [Below.heap_setCell _ _ _ _ h1, Below.heap_setCell _ _ _ _ h2, Below.heap_setCell _ _ _ _ h2, Below.heap_setCell _ _ _ _ h2, Below.heap_setCell _ _ _ _ h2]

theorem struck_F {w : World} {Fb Lb cap p q : Nat} {n1 : ByteArray} {a1 : Option Addr} {l1 k1 : Nat} (hne : ¬ Lb = Fb) {v : Value} {m : Value} (hf : w.heap[Fb]? = some (.cells #[v, m] 49 (0, 0))) :
    (struck w Fb Lb cap p q n1 a1 l1 k1).heap[Fb]? = some (.cells #[.slice (some ⟨Lb, 0, none⟩) q cap, m] 49 (0, 0)) := by
  have hne' : Fb ≠ Lb := fun e => hne e.symm
  unfold struck
  have h := heap_setCell_same ((((w.setCell ⟨Lb, p * 2, none⟩ (.string n1)).setCell ⟨Lb, p * 2 + 1, none⟩ (.slice a1 l1 k1)).setCell ⟨Lb, q * 2, none⟩ (.string ⟨#[]⟩)).setCell ⟨Lb, q * 2 + 1, none⟩ (.slice none 0 0)) Fb 0 #[v, m] 49 (.slice (some ⟨Lb, 0, none⟩) q cap)
    (by rw [Below.heap_setCell _ _ _ _ hne', Below.heap_setCell _ _ _ _ hne', Below.heap_setCell _ _ _ _ hne', Below.heap_setCell _ _ _ _ hne']; exact hf)
  rw [h]; rfl

theorem struck_L {w : World} {Fb Lb cap p q : Nat} {n1 : ByteArray} {a1 : Option Addr} {l1 k1 : Nat} (hne : ¬ Lb = Fb) {cur : Array Value} (hl : w.heap[Lb]? = some (.cells cur 41 (0, 0))) :
    (struck w Fb Lb cap p q n1 a1 l1 k1).heap[Lb]? = some (.cells ((((cur.setIfInBounds (p * 2) (.string n1)).setIfInBounds (p * 2 + 1) (.slice a1 l1 k1)).setIfInBounds (q * 2) (.string ⟨#[]⟩)).setIfInBounds (q * 2 + 1) (.slice none 0 0)) 41 (0, 0)) := by
  unfold struck
  rw [Below.heap_setCell _ _ _ _ hne]
  exact heap_setCell_same _ _ _ _ _ _ (heap_setCell_same _ _ _ _ _ _ (heap_setCell_same _ _ _ _ _ _ (heap_setCell_same _ _ _ _ _ _ hl)))

/-- What the list's three stores leave. -/
theorem struck_list {w : World} {Fb Lb cap p q : Nat} {pm : Option Nat} {nm : Nat → ByteArray} {va : Nat → Value} {L : List Nat} {n1 : ByteArray} {a1 : Option Addr} {l1 k1 : Nat}
    (h : ListAt w Fb Lb cap pm nm va L) (hne : ¬ Lb = Fb) (hq : L.length = q + 1) (hn1 : nm (L[q]'(by omega)) = n1) (hv1 : va (L[q]'(by omega)) = .slice a1 l1 k1) :
    ListAt (struck w Fb Lb cap p q n1 a1 l1 k1) Fb Lb cap pm nm va (delAt L p) := by
  have hlen : (delAt L p).length = q := by rw [delAt_length]; omega
  have hle := h.le
  refine ⟨?_, ?_, by omega, h.cap⟩
  · rw [hlen]; exact struck_F hne h.f
  · obtain ⟨cur, hb, hsz, hc⟩ := h.l
    refine ⟨_, struck_L hne hb, by simpa using hsz, ?_⟩
    intro j hj
    have hjq : j < q := by omega
    have hjl : j < L.length := by omega
    rw [get_delAt hj hjl (by omega)]
    have e1 : ∀ x y : Value, ((((cur.setIfInBounds (p * 2) x).setIfInBounds (p * 2 + 1) y).setIfInBounds (q * 2) (.string ⟨#[]⟩)).setIfInBounds (q * 2 + 1) (.slice none 0 0))[j * 2]? = if p = j then some x else cur[j * 2]? := by
      intro x y
      rw [Array.getElem?_setIfInBounds_ne (by omega), Array.getElem?_setIfInBounds_ne (by omega), Array.getElem?_setIfInBounds_ne (by omega)]
      by_cases e : p = j
      · subst e
        rw [if_pos rfl, Array.getElem?_setIfInBounds_self_of_lt (by omega)]
      · rw [if_neg e, Array.getElem?_setIfInBounds_ne (by omega)]
    have e2 : ∀ x y : Value, ((((cur.setIfInBounds (p * 2) x).setIfInBounds (p * 2 + 1) y).setIfInBounds (q * 2) (.string ⟨#[]⟩)).setIfInBounds (q * 2 + 1) (.slice none 0 0))[j * 2 + 1]? = if p = j then some y else cur[j * 2 + 1]? := by
      intro x y
      rw [Array.getElem?_setIfInBounds_ne (by omega), Array.getElem?_setIfInBounds_ne (by omega)]
      by_cases e : p = j
      · subst e
        rw [if_pos rfl, Array.getElem?_setIfInBounds_self_of_lt (by simp; omega)]
      · rw [if_neg e, Array.getElem?_setIfInBounds_ne (by omega), Array.getElem?_setIfInBounds_ne (by omega)]
    rw [e1, e2]
    have e3 : L.length - 1 = q := by omega
    by_cases e : p = j
    · rw [if_pos e, if_pos e, if_pos e]
      simp only [e3, hn1, hv1]
      exact ⟨trivial, trivial⟩
    · rw [if_neg e, if_neg e, if_neg e]
      exact hc j hjl

end Go.Proofs.Qxb6617816a
