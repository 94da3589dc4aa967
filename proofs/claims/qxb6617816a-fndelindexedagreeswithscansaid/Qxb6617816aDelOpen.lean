/-
  What the arguments of the Del laws read as: slices of strings, slices of slices of strings.
-/
import Derived.Test.Qxb6617816aDelWithin
import Derived.SliceStrings
import Derived.Deep.Slices
namespace Go.Proofs.Qxb6617816a
open Go.RowKit

theorem cells9 : Try.prog.cellsOf 9 = 1 := by kernel_rfl
theorem cells26 : Try.prog.cellsOf 26 = 1 := by kernel_rfl

theorem add_none (b off i : Nat) : (⟨b, off, none⟩ : Addr).add i = ⟨b, off + i, none⟩ := by unfold Addr.add; split <;> simp_all

theorem view_strs {H : Type} {enc : TypeId × Value → H} {W : World} {held : Bool} {fuel : Nat} {cs : List Value} {x : DataW H × List MemPlace}
    (hf : DataW.trod enc Try.prog W 0 (fun _ => true) held fuel 26 cs = some x) :
    ∃ (a : Option Addr) (cap : Nat) (l : List ByteArray), cs = [.slice a l.length cap] ∧ l.length ≤ maxLen ∧ Strs W a l ∧ ∀ s ∈ l, s.size ≤ maxLen := by
  rcases Go.ChangeShapes.open_strings Try.underlying26 Try.underlying9 cells9 hf with ⟨rfl, _⟩ | ⟨a, len, cap, ss, rfl, _, hl, hm, hz, _, hcell, hws⟩
  · exact ⟨none, 0, [], rfl, Nat.zero_le _, Or.inl rfl, by simp⟩
  · simp only [if_true] at hz
    have hlen : (ss.take len).length = len := by rw [List.length_take]; omega
    refine ⟨some a, cap, ss.take len, by rw [hlen], by omega, ?_, fun s hs => hws s (List.mem_of_mem_take hs)⟩
    by_cases h0 : len = 0
    · left; subst h0; rfl
    · right
      obtain ⟨b, off, spot⟩ := a
      have hc := hcell 0 (by omega)
      have hspot : spot = none := by simpa [Addr.add] using World.cell?_spot hc
      subst hspot
      refine ⟨b, off, rfl, fun i hi => ?_⟩
      have hi' : i < len := by omega
      have h1 := hcell i (by omega)
      rw [add_none] at h1
      rw [h1, List.getElem_take, List.getD_eq_getElem?_getD, List.getElem?_eq_getElem (by omega)]; rfl

theorem view_vals {H : Type} {enc : TypeId × Value → H} {W : World} {held : Bool} {fuel : Nat} {cs : List Value} {x : DataW H × List MemPlace}
    (hf : DataW.trod enc Try.prog W 0 (fun _ => true) held fuel 27 cs = some x) :
    ∃ (a : Option Addr) (cap : Nat) (vv : VV), cs = [.slice a vv.length cap] ∧ vv.length ≤ maxLen ∧ Vals W a vv := by
  rcases Deep.open_slice1 Try.underlying27 cells26 hf with ⟨rfl, _⟩ | ⟨a, len, cap, m, n, V, D, Pl, rfl, _, hl, hm, hmm, _, hx⟩
  · exact ⟨none, 0, [], rfl, Nat.zero_le _, Or.inl rfl⟩
  · simp only [if_true] at hmm
    have key : ∀ i, i < len → ∃ y : Option Addr × Nat × List ByteArray, W.cell? (a.add i) = some (.slice y.1 y.2.2.length y.2.1) ∧ Strs W y.1 y.2.2 ∧ y.2.2.length ≤ maxLen := by
      intro i hi
      obtain ⟨h1, h2⟩ := hx i (by omega)
      obtain ⟨a', c', l', e, h3, h4, _⟩ := view_strs h2
      simp only [List.cons.injEq, and_true] at e
      exact ⟨(a', c', l'), by rw [h1, e], h4, h3⟩
    obtain ⟨f, hfx⟩ := Deep.choose_lt key
    have hlen : ((List.range len).map f).length = len := by simp
    refine ⟨some a, cap, (List.range len).map f, by rw [hlen], by omega, ?_⟩
    by_cases h0 : len = 0
    · left; subst h0; rfl
    · right
      obtain ⟨b, off, spot⟩ := a
      have hc := (hfx 0 (by omega)).1
      have hspot : spot = none := by simpa [Addr.add] using World.cell?_spot hc
      subst hspot
      refine ⟨b, off, rfl, fun i hi => ?_⟩
      have hi' : i < len := by omega
      have h1 := hfx i hi'
      rw [add_none] at h1
      simpa using h1

end Go.Proofs.Qxb6617816a
