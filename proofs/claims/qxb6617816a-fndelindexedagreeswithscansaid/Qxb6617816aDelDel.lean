/-
  (*Fields).Del (18): its contract, out of the walks.
-/
import Derived.Test.Qxb6617816aDelDelA
import Derived.Test.Qxb6617816aDelDelB
import Derived.Test.Qxb6617816aDelDelC
namespace Go.Proofs.Qxb6617816a
open Go.RowKit Go.Maps
open DelPlain

/-- A 'Fields' in memory: its list and, where there is one, its map. -/
structure FieldsAt (w : World) (Fb Lb cap : Nat) (pm : Option Nat) (nm : Nat → ByteArray) (va : Nat → Value) (L : List Nat) : Prop where
  list : ListAt w Fb Lb cap pm nm va L
  map : ∀ Mb, pm = some Mb → PlacesAt w Mb nm L

/-- Nothing but the blocks of 'X' has turned; new blocks may have come. -/
structure Moved (X : Nat → Prop) (w w' : World) : Prop where
  os : w'.os = w.os
  tape : w'.tape = w.tape
  output : w'.output = w.output
  size : w.heap.size ≤ w'.heap.size
  block : ∀ k, k < w.heap.size → ¬ X k → w'.heap[k]? = w.heap[k]?

theorem Moved.refl (X : Nat → Prop) (w : World) : Moved X w w := ⟨rfl, rfl, rfl, Nat.le_refl _, fun _ _ _ => rfl⟩
theorem Moved.trans {X : Nat → Prop} {a b c : World} (h : Moved X a b) (k : Moved X b c) : Moved X a c :=
  ⟨k.os.trans h.os, k.tape.trans h.tape, k.output.trans h.output, Nat.le_trans h.size k.size, fun i hi hx => (k.block i (Nat.lt_of_lt_of_le hi h.size) hx).trans (h.block i hi hx)⟩
theorem Moved.mono {X Y : Nat → Prop} {w w' : World} (h : Moved X w w') (hx : ∀ k, X k → Y k) : Moved Y w w' :=
  ⟨h.os, h.tape, h.output, h.size, fun k hk hy => h.block k hk fun e => hy (hx k e)⟩
theorem Moved.drewN {X : Nat → Prop} {w w' : World} (h : Moved X w w') (n : Nat) : Moved X w (w'.drewN n) := ⟨h.os, h.tape, h.output, h.size, h.block⟩
theorem Moved.grown {X : Nat → Prop} {w w' : World} {b : Nat} (h : w.grownBy w' (some b)) (hb : X b) : Moved X w w' :=
  ⟨h.os, h.tape, h.output, h.size, fun k hk hx => h.block k hk (by intro e; cases e; exact hx hb)⟩
theorem Moved.setCell {X : Nat → Prop} {w w' : World} (h : Moved X w w') {p : Addr} (hp : X p.block) (u : Value) : Moved X w (w'.setCell p u) :=
  h.trans ⟨rfl, rfl, rfl, by simp [World.setCell], fun k _ hx => Below.heap_setCell _ _ _ _ (fun e => hx (e ▸ hp))⟩
theorem Moved.below {X : Nat → Prop} {B : Nat} {w w' : World} (h : Moved X w w') (hs : B ≤ w.heap.size) (hx : ∀ k, X k → B ≤ k) : Below B w w' :=
  ⟨h.os, h.tape, h.output, h.size, fun k hk => h.block k (by omega) fun e => by have := hx k e; omega⟩
theorem Moved.of_below {w w' : World} (h : Below w.heap.size w w') (X : Nat → Prop) : Moved X w w' :=
  ⟨h.os, h.tape, h.output, h.size, fun k hk _ => h.block k hk⟩

theorem struck_moved {w : World} {Fb Lb cap p q : Nat} {n1 : ByteArray} {a1 : Option Addr} {l1 k1 : Nat} {X : Nat → Prop} (hF : X Fb) (hL : X Lb) : Moved X w (struck w Fb Lb cap p q n1 a1 l1 k1) := by
  unfold struck
  exact (((((Moved.refl X w).setCell hL _).setCell hL _).setCell hL _).setCell hL _).setCell hF _

/-- The blocks of a 'Fields'. -/
def Own (Fb Lb : Nat) (pm : Option Nat) (k : Nat) : Prop := k = Fb ∨ k = Lb ∨ pm = some k

/-- The list behind 'Del(s)'. -/
def delName (nm : Nat → ByteArray) (L : List Nat) (s : ByteArray) : List Nat := if 0 ≤ pos nm L s then delAt L (pos nm L s).toNat else L

theorem delName_miss {nm : Nat → ByteArray} {L : List Nat} {s : ByteArray} (h : ∀ j (h : j < L.length), ¬ nm L[j] = s) : delName nm L s = L := by
  unfold delName; rw [pos_miss h, if_neg (by decide)]
theorem delName_hit {nm : Nat → ByteArray} {L : List Nat} (ha : Apart nm L) {p : Nat} (hp : p < L.length) : delName nm L (nm L[p]) = delAt L p := by
  unfold delName; rw [pos_at ha hp, if_pos (by omega)]; rfl

theorem ListAt.moved {w w' : World} {Fb Lb cap : Nat} {pm : Option Nat} {nm : Nat → ByteArray} {va : Nat → Value} {L : List Nat} (h : ListAt w Fb Lb cap pm nm va L) (hF : w'.heap[Fb]? = w.heap[Fb]?) (hL : w'.heap[Lb]? = w.heap[Lb]?) : ListAt w' Fb Lb cap pm nm va L :=
  ⟨hF.trans h.f, by obtain ⟨cur, hb, r⟩ := h.l; exact ⟨cur, hL.trans hb, r⟩, h.le, h.cap⟩

theorem ListAt.drewN {w : World} {Fb Lb cap : Nat} {pm : Option Nat} {nm : Nat → ByteArray} {va : Nat → Value} {L : List Nat} (h : ListAt w Fb Lb cap pm nm va L) (n : Nat) : ListAt (w.drewN n) Fb Lb cap pm nm va L :=
  ⟨h.f, h.l, h.le, h.cap⟩

theorem ListAt.ne {w : World} {Fb Lb cap : Nat} {pm : Option Nat} {nm : Nat → ByteArray} {va : Nat → Value} {L : List Nat} (h : ListAt w Fb Lb cap pm nm va L) : ¬ Lb = Fb := by
  intro e
  obtain ⟨cur, hb, _⟩ := h.l
  have := h.f
  rw [← e, hb] at this
  simp at this

theorem map_ne {w : World} {Mb b n : Nat} {D : DataW Unit} {cur : Array Value} {t : TypeId} {fz : Nat × Nat} (h : w.ownsMap Try.prog 9 (plainElem (H := Unit) Try.prog 3) Mb n D) (hb : w.heap[b]? = some (.cells cur t fz)) : Mb ≠ b := by
  intro e
  obtain ⟨es, clock, hm, _⟩ := h
  rw [e, hb] at hm
  simp at hm

theorem lt_of_some {w : World} {b : Nat} {o : Obj} (h : w.heap[b]? = some o) : b < w.heap.size := (Array.getElem?_eq_some_iff.1 h).1

set_option maxHeartbeats 400000 in
theorem core18_miss (Fb : Nat) (s : ByteArray) (w : World)
    (i29 : Box (Calls Try.prog 29 #[.pointer (some ⟨Fb, 0, none⟩), .string s] w fun e w' => e = .returned (.int .i64 (-1)) ∧ w' = w)) :
    Calls Try.prog 18 #[.pointer (some ⟨Fb, 0, none⟩), .string s] w fun e w' => e = .returned (.tuple #[]) ∧ w' = w := by
  go_enter Try.func18, Try.ntmps18
  go_wp2_with fail
  refine i29.out.mono ?_
  rintro e w' ⟨rfl, rfl⟩
  go_wp2
  refine bodyPost_ret (results_none rfl _ _ _) rfl ?_
  exact ⟨rfl, rfl⟩

theorem index29 (Fb Lb cap : Nat) (pm : Option Nat) (nm : Nat → ByteArray) (va : Nat → Value) (L : List Nat) (s : ByteArray) (w : World) (hF : FieldsAt w Fb Lb cap pm nm va L) (ha : Apart nm L) (hs : s.size ≤ maxLen) :
    Calls Try.prog 29 #[.pointer (some ⟨Fb, 0, none⟩), .string s] w fun e w' => e = .returned (.int .i64 (pos nm L s)) ∧ w' = w := by
  cases pm with
  | none => exact index29_scan Fb Lb cap nm va L s w hF.list
  | some Mb => exact index29_map Fb Lb cap Mb nm va L s w hF.list (hF.map Mb rfl) ha hs

set_option maxHeartbeats 400000 in
theorem del18 (Fb Lb cap : Nat) (pm : Option Nat) (nm : Nat → ByteArray) (va : Nat → Value) (L : List Nat) (s : ByteArray) (w : World) (hF : FieldsAt w Fb Lb cap pm nm va L) (ha : Apart nm L) (hs : s.size ≤ maxLen)
    (hnm : ∀ i, (nm i).size ≤ maxLen) (hva : ∀ i, ∃ a l k, va i = .slice a l k) :
    Calls Try.prog 18 #[.pointer (some ⟨Fb, 0, none⟩), .string s] w fun e w' => e = .returned (.tuple #[]) ∧ FieldsAt w' Fb Lb cap pm nm va (delName nm L s) ∧ Moved (Own Fb Lb pm) w w' := by
  have i29 := Box.mk (index29 Fb Lb cap pm nm va L s w hF ha hs)
  by_cases hex : ∃ p, ∃ hp : p < L.length, nm L[p] = s
  · obtain ⟨p, hp, rfl⟩ := hex
    rw [pos_at ha hp] at i29
    rw [delName_hit ha hp]
    obtain ⟨q, hq⟩ : ∃ q, L.length = q + 1 := ⟨L.length - 1, by omega⟩
    have hql : q < L.length := by omega
    have hlist := hF.list
    have hne := hlist.ne
    have hle := hlist.le
    obtain ⟨a0, l0, k0, hv0⟩ := hva L[p]
    obtain ⟨a1, l1, k1, hv1⟩ := hva (L[q]'hql)
    have hc0 := hlist.c0
    rw [hq] at hc0
    have hvp := hlist.vals p hp
    rw [hv0] at hvp
    have hvl := hlist.vals q hql
    rw [hv1] at hvl
    have fz0 : w.frozen? ⟨Fb, 0, none⟩ = false := free_block hlist.f
    have fzl : ∀ j, w.frozen? ⟨Lb, j, none⟩ = false := fun j => by obtain ⟨cur, hb, _⟩ := hlist.l; exact free_block hb
    have hst := struck_list (p := p) (q := q) hlist hne hq rfl hv1
    have hmv := struck_moved (w := w) (Fb := Fb) (Lb := Lb) (cap := cap) (p := p) (q := q) (n1 := nm (L[q]'hql)) (a1 := a1) (l1 := l1) (k1 := k1) (X := Own Fb Lb pm) (Or.inl rfl) (Or.inr (Or.inl rfl))
    have hll : L.length - 1 < L.length := by omega
    have eql : (L[L.length - 1]'hll) = (L[q]'hql) := by congr 1; omega
    cases pm with
    | none =>
      have fin : ∀ (e : Ending) (w' : World), (e = .returned (.tuple #[]) ∧ ∃ n, w' = (struck w Fb Lb cap p q (nm (L[q]'hql)) a1 l1 k1).drewN n) → e = .returned (.tuple #[]) ∧ FieldsAt w' Fb Lb cap none nm va (delAt L p) ∧ Moved (Own Fb Lb none) w w' := by
        rintro e w' ⟨rfl, n, rfl⟩
        exact ⟨rfl, ⟨hst.drewN n, fun Mb h => by cases h⟩, hmv.drewN n⟩
      by_cases hpq : p < q
      · exact (core18_scan Fb Lb cap p q (nm (L[p]'hp)) (nm (L[q]'hql)) a0 a1 l0 k0 l1 k1 _ w (by omega) hlist.cap hpq hne hc0 hlist.c1 (hlist.name p hp) hvp (hlist.name q hql) hvl fz0 fzl i29.out).mono fin
      · have e : p = q := by omega
        subst e
        exact (core18_scanLast Fb Lb cap p (nm (L[p]'hp)) a1 l1 k1 _ w (by omega) hlist.cap hne hc0 hlist.c1 (hlist.name p hp) hvl fz0 fzl i29.out).mono fin
    | some Mb =>
      obtain ⟨n, D, hown, hn, hD⟩ := hF.map Mb rfl
      have hMF : Mb ≠ Fb := map_ne hown hlist.f
      have hML : Mb ≠ Lb := by obtain ⟨cur, hb, _⟩ := hlist.l; exact map_ne hown hb
      have hsz : Maps.size D ≤ 4096 := by rw [hD.size]; have := hlist.cap; omega
      have hown' := own_tight hown
      have fin : ∀ (n' : Nat) (D' : DataW Unit), MapsTo D' nm (delAt L p) → ∀ (e : Ending) (w' : World), (e = .returned (.tuple #[]) ∧ (struck w Fb Lb cap p q (nm (L[q]'hql)) a1 l1 k1).grownBy w' (some Mb) ∧ w'.ownsMap Try.prog 9 (plainElem (H := Unit) Try.prog 3) Mb n' D') →
          e = .returned (.tuple #[]) ∧ FieldsAt w' Fb Lb cap (some Mb) nm va (delAt L p) ∧ Moved (Own Fb Lb (some Mb)) w w' := by
        rintro n' D' hD' e w' ⟨rfl, hg, ho⟩
        have hsF : Fb < (struck w Fb Lb cap p q (nm (L[q]'hql)) a1 l1 k1).heap.size := lt_of_some hst.f
        have hsL : Lb < (struck w Fb Lb cap p q (nm (L[q]'hql)) a1 l1 k1).heap.size := by obtain ⟨cur, hb, _⟩ := hst.l; exact lt_of_some hb
        refine ⟨rfl, ⟨hst.moved (hg.block Fb hsF (by simp; omega)) (hg.block Lb hsL (by simp; omega)), ?_⟩, hmv.trans (Moved.grown hg (Or.inr (Or.inr rfl)))⟩
        intro Mb' h
        cases h
        have ht := own_tight ho
        refine ⟨_, D', ht, ?_, hD'⟩
        rw [hD'.size, delAt_length]
        have := hlist.cap; omega
      by_cases hpq : p < q
      · have s0 := hst.c0
        rw [delAt_length, show L.length - 1 = q by omega] at s0
        have hpd : p < (delAt L p).length := by rw [delAt_length]; omega
        have s2 := hst.name p hpd
        have hD2 := hD.delMid ha p hp (by omega) hll
        rw [get_delAt hpd hp hll, if_pos rfl, eql] at s2
        rw [eql] at hD2
        exact (core18_map Fb Lb cap p q Mb _ D (nm (L[p]'hp)) (nm (L[q]'hql)) a0 a1 l0 k0 l1 k1 _ w (by omega) hlist.cap hpq hne hMF hML hs (hnm _) (by omega) hown' hc0 hlist.c1 (hlist.name p hp) hvp (hlist.name q hql) hvl fz0 fzl s0 hst.c1 s2 i29.out).mono (fin _ _ hD2)
      · have e : p = q := by omega
        subst e
        exact (core18_mapLast Fb Lb cap p Mb _ D (nm (L[p]'hp)) a1 l1 k1 _ w (by omega) hlist.cap hne hMF hML hs hown' hc0 hlist.c1 (hlist.name p hp) hvl fz0 fzl i29.out).mono (fin _ _ (hD.delLast ha p hp (by omega)))
  · have hm : ∀ j (h : j < L.length), ¬ nm L[j] = s := fun j h e => hex ⟨j, h, e⟩
    rw [pos_miss hm] at i29
    rw [delName_miss hm]
    refine (core18_miss Fb s w i29).mono ?_
    rintro e w' ⟨rfl, rfl⟩
    exact ⟨rfl, hF, Moved.refl _ _⟩
end Go.Proofs.Qxb6617816a
