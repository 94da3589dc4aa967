/-
  What stands before the script: the fields as they are built; what the script's names make of the list.
-/
import Derived.Test.Qxb6617816aDelMatch
import Derived.Test.Qxb6617816aDelBytes
namespace Go.Proofs.Qxb6617816a
open Go.RowKit Go.Maps
open DelPlain

theorem FieldsAt.keep {w w' : World} {Fb Lb cap : Nat} {pm : Option Nat} {nm : Nat → ByteArray} {va : Nat → Value} {L : List Nat} (h : FieldsAt w Fb Lb cap pm nm va L) (hk : ∀ k, Own Fb Lb pm k → w'.heap[k]? = w.heap[k]?) : FieldsAt w' Fb Lb cap pm nm va L := by
  refine ⟨h.list.moved (hk Fb (Or.inl rfl)) (hk Lb (Or.inr (Or.inl rfl))), fun Mb e => ?_⟩
  obtain ⟨n, D, ⟨es, clock, hb, r⟩, hn, hD⟩ := h.map Mb e
  exact ⟨n, D, ⟨es, clock, (hk Mb (Or.inr (Or.inr e))).trans hb, r⟩, hn, hD⟩

theorem FieldsAt.own_lt {w : World} {Fb Lb cap : Nat} {pm : Option Nat} {nm : Nat → ByteArray} {va : Nat → Value} {L : List Nat} (h : FieldsAt w Fb Lb cap pm nm va L) {k : Nat} (hk : Own Fb Lb pm k) : k < w.heap.size := by
  rcases hk with rfl | rfl | e
  · exact lt_of_some h.list.f
  · obtain ⟨cur, hb, _⟩ := h.list.l; exact lt_of_some hb
  · obtain ⟨n, D, ⟨es, clock, hb, r⟩, hn, hD⟩ := h.map k e; exact lt_of_some hb

/-- A 'Fields' built of the names 'l' and the values 'vv': in world 'w3', on what was there in 'w'. -/
structure Setup (w w3 : World) (Fb Lb S : Nat) (pm : Option Nat) (l : List ByteArray) (vv : VV) (va : Nat → Value) : Prop where
  fields : FieldsAt w3 Fb Lb l.length pm (nmOf l) va (List.range l.length)
  slices : ∀ i, ∃ a m k, va i = .slice a m k
  vals : ∀ i, i < l.length → ∃ a c, va i = .slice a (vAt vv i).2.2.length c ∧ ∀ wr : World, (∀ k, Lb < k → k < S → wr.heap[k]? = w3.heap[k]?) → S ≤ wr.heap.size → Strs wr a (vAt vv i).2.2
  below : Below w.heap.size w w3
  own : ∀ k, Own Fb Lb pm k → w.heap.size ≤ k ∧ ¬ (Lb < k ∧ k < S)
  size : S ≤ w3.heap.size
  low : w.heap.size ≤ Lb

/-- The values of a list that was built. -/
def vaOf (xs : List Value) (i : Nat) : Value := xs.getD i (.slice none 0 0)

theorem setup_of {w w1 w2 : World} {l : List ByteArray} {vv : VV} {xs : List Value} {pm : Option Nat} (hl : l.length ≤ 4096) (hb : Built w.heap.size w w1 l vv l.length xs) (h12 : Below w1.heap.size w1 w2)
    (hm : ∀ Mb, pm = some Mb → w1.heap.size ≤ Mb ∧ Mb < w2.heap.size ∧ PlacesAt w2 Mb (nmOf l) (List.range l.length)) :
    Setup w (w2.alloc (.cells #[.slice (some ⟨w.heap.size, 0, none⟩) l.length l.length, .map pm] 49)) w2.heap.size w.heap.size w1.heap.size pm l vv (vaOf xs) := by
  have hB := hb.lt
  have hs := h12.size
  have hold : ∀ k, k < w2.heap.size → (w2.alloc (.cells #[.slice (some ⟨w.heap.size, 0, none⟩) l.length l.length, .map pm] 49)).heap[k]? = w2.heap[k]? := fun k hk => Below.heap_alloc _ _ _ hk
  have hlen := hb.len
  have hget : ∀ i, i < l.length → ∃ a c, vaOf xs i = .slice a (vAt vv i).2.2.length c ∧ xs[i]? = some (vaOf xs i) ∧ NewStrs (w.heap.size + 1) w1 a (vAt vv i).2.2 := by
    intro i hi
    obtain ⟨a, c, h1, h2⟩ := hb.vals i hi
    have e : vaOf xs i = .slice a (vAt vv i).2.2.length c := by unfold vaOf; rw [List.getD_eq_getElem?_getD, h1]; rfl
    exact ⟨a, c, e, by rw [e]; exact h1, h2⟩
  refine ⟨⟨⟨?_, ?_, by simp, hl⟩, ?_⟩, ?_, ?_, ?_, ?_, ?_, Nat.le_refl _⟩
  · rw [List.length_range]; exact heap_alloc_new w2 _
  · obtain ⟨cur, hc, hcs, hx⟩ := hb.list
    refine ⟨cur, ((hold _ (by omega)).trans (h12.block _ hB)).trans hc, by omega, fun p hp => ?_⟩
    have hp' : p < l.length := by simpa using hp
    obtain ⟨h1, h2⟩ := hx p hp' hp'
    rw [List.getElem_range, nmOf_lt hp', h1, h2]
    obtain ⟨a, c, _, h3, _⟩ := hget p hp'
    exact ⟨rfl, h3⟩
  · intro Mb e
    obtain ⟨_, h2, n, D, hown, hn, hD⟩ := hm Mb e
    exact ⟨n, D, hown.alloc _, hn, hD⟩
  · intro i
    by_cases hi : i < l.length
    · obtain ⟨a, c, h1, _⟩ := hget i hi
      exact ⟨a, _, c, h1⟩
    · refine ⟨none, 0, 0, ?_⟩
      unfold vaOf
      rw [List.getD_eq_getElem?_getD, List.getElem?_eq_none (by omega)]; rfl
  · intro i hi
    obtain ⟨a, c, h1, _, h3⟩ := hget i hi
    refine ⟨a, c, h1, fun wr hk hsz => ?_⟩
    have h4 := h3.keep (w' := wr) hsz (fun k h5 h6 => ((hk k (by omega) h6).trans (hold k (by omega))).trans (h12.block k h6))
    rcases h4 with h | ⟨b, e, _, _, h⟩
    · exact Or.inl h
    · exact Or.inr ⟨b, 0, e, h⟩
  · exact (hb.below.trans (h12.mono (by omega))).alloc (by omega) _
  · intro k hk
    rcases hk with rfl | rfl | e
    · omega
    · omega
    · obtain ⟨h1, _⟩ := hm k e; omega
  · simp; omega

theorem Setup.mono {w w3 w4 : World} {Fb Lb S : Nat} {pm : Option Nat} {l : List ByteArray} {vv : VV} {va : Nat → Value} (h : Setup w w3 Fb Lb S pm l vv va) (hb : Below w3.heap.size w3 w4) : Setup w w4 Fb Lb S pm l vv va := by
  have hs := hb.size
  have hz := h.size
  have hw := h.below.size
  refine ⟨h.fields.keep fun k hk => hb.block k (h.fields.own_lt hk), h.slices, ?_, h.below.trans (hb.mono hw), h.own, by omega, h.low⟩
  intro i hi
  obtain ⟨a, c, h1, h2⟩ := h.vals i hi
  exact ⟨a, c, h1, fun wr hk hsz => h2 wr (fun k h3 h4 => (hk k h3 h4).trans (hb.block k (by omega))) hsz⟩

/-! ### the script -/

theorem hasS_snoc (ds : List ByteArray) (d s : ByteArray) : hasS (ds ++ [d]) s = (hasS ds s || eqS d s) := by simp [hasS]

theorem apart_of {n : Nat} {b : Nat → Bool} {l : List ByteArray} {L : List Nat} (h : Inv n b L) (hn : n ≤ l.length) (hd : distinct l) : Apart (nmOf l) L := by
  intro p q hp hq e
  have h1 := ((h.mem _).1 (List.getElem_mem hp)).1
  have h2 := ((h.mem _).1 (List.getElem_mem hq)).1
  have h3 := apart_range hd hn L[p] L[q] (by simpa using h1) (by simpa using h2) (by simpa using e)
  have hnd := List.pairwise_iff_getElem.1 h.nodup
  rcases Nat.lt_trichotomy p q with h4 | h4 | h4
  · exact absurd h3 (hnd p q hp hq h4)
  · exact h4
  · exact absurd h3.symm (hnd q p hq hp h4)

/-- One name of the script. -/
theorem Inv.script {l : List ByteArray} (hd : distinct l) {ds : List ByteArray} {L : List Nat} (h : Inv l.length (fun i => hasS ds (nmOf l i)) L) (d : ByteArray) :
    Inv l.length (fun i => hasS (ds ++ [d]) (nmOf l i)) (delName (nmOf l) L d) := by
  have ha := apart_of h (Nat.le_refl _) hd
  by_cases hex : ∃ p, ∃ hp : p < L.length, nmOf l L[p] = d
  · obtain ⟨p, hp, rfl⟩ := hex
    rw [delName_hit ha hp]
    refine h.hit p hp fun i hi => ?_
    show hasS (ds ++ [nmOf l L[p]]) (nmOf l i) = (hasS ds (nmOf l i) || i == L[p])
    rw [hasS_snoc]
    congr 1
    have hLp := ((h.mem _).1 (List.getElem_mem hp)).1
    rw [Bool.eq_iff_iff, eqS_iff, beq_iff_eq]
    constructor
    · intro e
      have := apart_range hd (Nat.le_refl _) L[p] i (by simpa using hLp) (by simpa using hi) (by simpa using e)
      omega
    · intro e; rw [← e]
  · have hm : ∀ j (h : j < L.length), ¬ nmOf l L[j] = d := fun j h e => hex ⟨j, h, e⟩
    rw [delName_miss hm]
    refine h.miss (fun i hi => ?_) (fun i hi => ?_)
    · show hasS (ds ++ [d]) (nmOf l i) = true
      have hi' : hasS ds (nmOf l i) = true := hi
      rw [hasS_snoc, hi']; rfl
    · show hasS (ds ++ [d]) (nmOf l i) = false
      have h1 : hasS ds (nmOf l i) = false := ((h.mem i).1 hi).2
      obtain ⟨j, hj, e⟩ := List.mem_iff_getElem.1 hi
      rw [hasS_snoc, h1, Bool.false_or, eqS_false]
      intro e2
      exact hm j hj (by rw [e]; exact e2.symm)

end Go.Proofs.Qxb6617816a
