/-
  FnDelScriptLeavesExactlyTheOthers (5): the walk.
-/
import Derived.Test.Qxb6617816aDelSetup
namespace Go.Proofs.Qxb6617816a
open Go.RowKit Go.Maps
open DelPlain

/-- A world that differs by draws alone. -/
structure Quiet (w w' : World) : Prop where
  heap : w'.heap = w.heap
  os : w'.os = w.os
  tape : w'.tape = w.tape
  output : w'.output = w.output

theorem Quiet.refl (w : World) : Quiet w w := ⟨rfl, rfl, rfl, rfl⟩
theorem Quiet.drewN (w : World) (n : Nat) : Quiet w (w.drewN n) := ⟨rfl, rfl, rfl, rfl⟩
theorem Quiet.below {w w' : World} (h : Quiet w w') (B : Nat) : Below B w w' := ⟨h.os, h.tape, h.output, by rw [h.heap]; exact Nat.le_refl _, fun _ _ => by rw [h.heap]⟩
theorem Quiet.moved {w w' : World} (h : Quiet w w') (X : Nat → Prop) : Moved X w w' := ⟨h.os, h.tape, h.output, by rw [h.heap]; exact Nat.le_refl _, fun _ _ _ => by rw [h.heap]⟩

/-- What zzDistinct answers. -/
def Dist (l : List ByteArray) (w : World) (e : Ending) (w' : World) : Prop := ∃ r, e = .returned (.bool r) ∧ Quiet w w' ∧ (r = true ↔ distinct l)

theorem dist14 (ao : Option Addr) (cap : Nat) (l : List ByteArray) (w : World) (hl : l.length ≤ maxLen) (hS : Strs w ao l) :
    Calls Try.prog 14 #[.slice ao l.length cap] w fun e w' => Dist l w e w' :=
  (distinct14 ao cap l w hl hS).mono fun _ _ ⟨r, _, he, hw, hr⟩ => ⟨r, he, hw ▸ Quiet.drewN _ _, hr⟩

/-- What zzBuildPlaces leaves. -/
structure Placed (l : List ByteArray) (ix : Bool) (w : World) (pm : Option Nat) (w' : World) : Prop where
  below : Below w.heap.size w w'
  some : pm.isSome = ix
  map : ∀ Mb, pm = .some Mb → w.heap.size ≤ Mb ∧ Mb < w'.heap.size ∧ PlacesAt w' Mb (nmOf l) (List.range l.length)

theorem placed17 (ao : Option Addr) (ca : Nat) (l : List ByteArray) (ix : Bool) (w : World) (hl : l.length ≤ 4096) (hS : Strs w ao l) (hd : distinct l) (hsz : ∀ s ∈ l, s.size ≤ maxLen) :
    Calls Try.prog 17 #[.slice ao l.length ca, .bool ix] w fun e w' => ∃ pm, e = .returned (.map pm) ∧ Placed l ix w pm w' := by
  cases ix
  · refine (places17_no ao ca l.length w).mono ?_
    rintro e w' ⟨rfl, rfl⟩
    exact ⟨none, rfl, Below.refl _ _, rfl, fun Mb h => by cases h⟩
  · refine (places17 ao ca l w hl hS hd hsz).mono ?_
    rintro e w' ⟨rfl, ⟨D, hown, hD⟩, hb⟩
    refine ⟨_, rfl, hb, rfl, fun Mb h => ?_⟩
    cases h
    exact ⟨Nat.le_refl _, hown.lt, _, D, hown, by omega, hD⟩

theorem match24_any (Fb Lb cap : Nat) (pm : Option Nat) (ix : Bool) (nm : Nat → ByteArray) (va : Nat → Value) (L : List Nat) (w : World) (hF : FieldsAt w Fb Lb cap pm nm va L) (hp : pm.isSome = ix) (hnm : ∀ i, (nm i).size ≤ maxLen) :
    Calls Try.prog 24 #[.map pm, .slice (some ⟨Lb, 0, none⟩) L.length cap, .bool ix] w fun e w' => e = .returned (.bool true) ∧ w' = w := by
  cases pm with
  | none =>
    cases hp
    exact match24_no _ _ _ w
  | some Mb =>
    cases hp
    exact match24 Fb Lb cap Mb nm va L w hF.list (hF.map Mb rfl) hnm

theorem nmOf_size {l : List ByteArray} (h : ∀ s ∈ l, s.size ≤ maxLen) (i : Nat) : (nmOf l i).size ≤ maxLen := by
  unfold nmOf
  split
  · exact h _ (List.getElem_mem _)
  · exact Nat.zero_le _

/-- The script's state: the fields behind the first 'k' names. -/
def Going (w3 wr : World) (Fb Lb : Nat) (pm : Option Nat) (l : List ByteArray) (va : Nat → Value) (m : List ByteArray) (k : Nat) : Prop :=
  ∃ L, FieldsAt wr Fb Lb l.length pm (nmOf l) va L ∧ Inv l.length (fun i => hasS (m.take k) (nmOf l i)) L ∧ Moved (Own Fb Lb pm) w3 wr

theorem Going.start {w w3 : World} {Fb Lb S : Nat} {pm : Option Nat} {l : List ByteArray} {vv : VV} {va : Nat → Value} (h : Setup w w3 Fb Lb S pm l vv va) (m : List ByteArray) : Going w3 w3 Fb Lb pm l va m 0 :=
  ⟨_, h.fields, Inv.start _ _ fun _ => rfl, Moved.refl _ _⟩

theorem del_going {w w3 wr : World} {Fb Lb S : Nat} {pm : Option Nat} {l : List ByteArray} {vv : VV} {va : Nat → Value} {m : List ByteArray} {k : Nat} (hs : Setup w w3 Fb Lb S pm l vv va) (hd : distinct l) (hsz : ∀ s ∈ l, s.size ≤ maxLen) (hmz : ∀ s ∈ m, s.size ≤ maxLen)
    (h : Going w3 wr Fb Lb pm l va m k) (hk : k < m.length) :
    Calls Try.prog 18 #[.pointer (some ⟨Fb, 0, none⟩), .string m[k]] wr fun e w' => e = .returned (.tuple #[]) ∧ Going w3 w' Fb Lb pm l va m (k + 1) := by
  obtain ⟨L, hF, hI, hM⟩ := h
  refine (del18 Fb Lb l.length pm (nmOf l) va L m[k] wr hF (apart_of hI (Nat.le_refl _) hd) (hmz _ (List.getElem_mem hk)) (nmOf_size hsz) hs.slices).mono ?_
  rintro e w' ⟨rfl, hF', hM'⟩
  refine ⟨rfl, _, hF', ?_, hM.trans hM'⟩
  rw [List.take_succ_eq_append_getElem hk]
  exact Inv.script hd hI m[k]

/-- Old memory in the script's worlds. -/
theorem Going.below {w w3 wr : World} {Fb Lb S : Nat} {pm : Option Nat} {l : List ByteArray} {vv : VV} {va : Nat → Value} {m : List ByteArray} {k : Nat} (hs : Setup w w3 Fb Lb S pm l vv va) (h : Going w3 wr Fb Lb pm l va m k) : Below w.heap.size w wr := by
  obtain ⟨L, _, _, hM⟩ := h
  exact hs.below.trans (hM.below hs.below.size fun k hk => (hs.own k hk).1)

end Go.Proofs.Qxb6617816a
