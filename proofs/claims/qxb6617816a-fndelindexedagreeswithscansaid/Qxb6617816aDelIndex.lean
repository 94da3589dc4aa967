/-
  A 'Fields' in memory; (*Fields).index (29).
-/
import Derived.Test.Qxb6617816aDelMap
namespace Go.Proofs.Qxb6617816a
open Go.RowKit Go.Maps
open DelPlain

/-- Where the field of name 's' stands; -1 where there is none. -/
def pos (nm : Nat → ByteArray) (L : List Nat) (s : ByteArray) : Int := idx (L.map nm) s

/-- The fields without a map. -/
structure ListAt (w : World) (Fb Lb cap : Nat) (pm : Option Nat) (nm : Nat → ByteArray) (va : Nat → Value) (L : List Nat) : Prop where
  f : w.heap[Fb]? = some (.cells #[.slice (some ⟨Lb, 0, none⟩) L.length cap, .map pm] 49 (0, 0))
  l : ∃ cur : Array Value, w.heap[Lb]? = some (.cells cur 41 (0, 0)) ∧ cur.size = 2 * cap ∧ ∀ p (h : p < L.length), cur[p * 2]? = some (.string (nm L[p])) ∧ cur[p * 2 + 1]? = some (va L[p])
  le : L.length ≤ cap
  cap : cap ≤ 4096

theorem cell_block {w : World} {b j : Nat} {cur : Array Value} {t : TypeId} {fz : Nat × Nat} (h : w.heap[b]? = some (.cells cur t fz)) : w.cell? ⟨b, j, none⟩ = cur[j]? := by
  simp [World.cell?, h]

theorem ListAt.c0 {w : World} {Fb Lb cap : Nat} {pm : Option Nat} {nm : Nat → ByteArray} {va : Nat → Value} {L : List Nat} (h : ListAt w Fb Lb cap pm nm va L) : w.cell? ⟨Fb, 0, none⟩ = some (.slice (some ⟨Lb, 0, none⟩) L.length cap) := by
  rw [cell_block h.f]; rfl
theorem ListAt.c1 {w : World} {Fb Lb cap : Nat} {pm : Option Nat} {nm : Nat → ByteArray} {va : Nat → Value} {L : List Nat} (h : ListAt w Fb Lb cap pm nm va L) : w.cell? ⟨Fb, 1, none⟩ = some (.map pm) := by
  rw [cell_block h.f]; rfl
theorem ListAt.name {w : World} {Fb Lb cap : Nat} {pm : Option Nat} {nm : Nat → ByteArray} {va : Nat → Value} {L : List Nat} (h : ListAt w Fb Lb cap pm nm va L) (p : Nat) (hp : p < L.length) : w.cell? ⟨Lb, p * 2, none⟩ = some (.string (nm L[p])) := by
  obtain ⟨cur, hb, _, hc⟩ := h.l
  rw [cell_block hb]; exact (hc p hp).1
theorem ListAt.vals {w : World} {Fb Lb cap : Nat} {pm : Option Nat} {nm : Nat → ByteArray} {va : Nat → Value} {L : List Nat} (h : ListAt w Fb Lb cap pm nm va L) (p : Nat) (hp : p < L.length) : w.cell? ⟨Lb, p * 2 + 1, none⟩ = some (va L[p]) := by
  obtain ⟨cur, hb, _, hc⟩ := h.l
  rw [cell_block hb]; exact (hc p hp).2

theorem pos_hit {nm : Nat → ByteArray} {L : List Nat} {s : ByteArray} {k : Nat} (hk : k < L.length) (e : nm L[k] = s) (hn : ∀ j (h : j < L.length), j < k → ¬ nm L[j] = s) : pos nm L s = k :=
  idx_hit (k := k) (by simpa using hk) (by simpa using e) (fun j h hj => by simpa using hn j (by simpa using h) hj)

theorem pos_miss {nm : Nat → ByteArray} {L : List Nat} {s : ByteArray} (hn : ∀ j (h : j < L.length), ¬ nm L[j] = s) : pos nm L s = -1 := by
  refine idx_miss fun hm => ?_
  rw [List.mem_map] at hm
  obtain ⟨i, hi, e⟩ := hm
  obtain ⟨j, hj, rfl⟩ := List.mem_iff_getElem.1 hi
  exact hn j hj e

/-- Where names are apart: the one place. -/
theorem pos_at {nm : Nat → ByteArray} {L : List Nat} (ha : Apart nm L) {k : Nat} (hk : k < L.length) : pos nm L (nm L[k]) = k :=
  pos_hit hk rfl fun j h hj e => by have := ha j k h hk e; omega

theorem MapsTo.look {D : DataW Unit} {nm : Nat → ByteArray} {L : List Nat} (h : MapsTo D nm L) (ha : Apart nm L) {s : ByteArray} {c : Int} (h1 : Maps.has D (key s) = true) (h2 : D.atKey (key s) (.lit (.int .i64 0)) = .lit (.int .i64 c)) : pos nm L s = c := by
  by_cases hex : ∃ p, ∃ hp : p < L.length, nm L[p] = s
  · obtain ⟨p, hp, rfl⟩ := hex
    rw [pos_at ha hp]
    have h3 := (h.hit p hp).2
    unfold i64d at h3
    rw [h2] at h3
    simpa using h3.symm
  · rw [h.miss s fun p hp e => hex ⟨p, hp, e⟩] at h1
    cases h1

theorem MapsTo.lookNot {D : DataW Unit} {nm : Nat → ByteArray} {L : List Nat} (h : MapsTo D nm L) {s : ByteArray} (h1 : Maps.has D (key s) = false) : pos nm L s = -1 :=
  pos_miss fun j hj e => by
    subst e
    rw [(h.hit j hj).1] at h1
    cases h1

set_option maxHeartbeats 400000 in
theorem index29_scan (Fb Lb cap : Nat) (nm : Nat → ByteArray) (va : Nat → Value) (L : List Nat) (s : ByteArray) (w : World) (hF : ListAt w Fb Lb cap none nm va L) :
    Calls Try.prog 29 #[.pointer (some ⟨Fb, 0, none⟩), .string s] w fun e w' => e = .returned (.int .i64 (pos nm L s)) ∧ w' = w := by
  have hc0 := hF.c0
  have hc1 := hF.c1
  have hle := hF.le
  have hcap := hF.cap
  have HF := Hid.mk' hF
  clear hF
  have q35 : ∀ (w : World) (r : Option Nat), (binOp .neq 35 (.map r) (.map none)).run Try.prog w = .ok (.bool (!r.isNone)) w := fun w r => run_neq_map_nil w _ _ _ r Try.underlying35
  go_enter Try.func29, Try.ntmps29
  go_wp2
  go_loop [29] (fun i => ∃ k : Nat, k ≤ L.length ∧ i = .int .i64 k ∧ Hid (∀ j (h : j < L.length), j < k → ¬ nm L[j] = s)) (fun i => L.length - (intOf i).toNat)
  case atStart => exact ⟨0, Nat.zero_le _, rfl, fun _ _ h => absurd h (Nat.not_lt_zero _)⟩
  case round =>
    obtain ⟨k, hk, rfl, HN⟩ := hrel
    by_cases hlt : k < L.length
    · have hck := HF.out.name k hlt
      go_wp2
      · have h1 := of_beq (a := nm L[k]) (b := s) (by assumption)
        go_ret
        exact ⟨ret_i64 (pos_hit hlt h1 HN.out).symm, rfl⟩
      · have h1 := of_bne (a := nm L[k]) (b := s) (by assumption)
        go_round
        case rel => exact ⟨k + 1, hlt, by go_num, fun j h hj => by
          rcases Nat.lt_or_ge j k with h2 | h2
          · exact HN.out j h h2
          · have e : j = k := by omega
            subst e; exact h1⟩
        case measure => simp [intOf]; omega
    · go_wp2
      go_ret
      exact ⟨ret_i64 (pos_miss (fun j h => HN.out j h (by omega))).symm, rfl⟩

set_option maxHeartbeats 400000 in
theorem index29_map (Fb Lb cap Mb : Nat) (nm : Nat → ByteArray) (va : Nat → Value) (L : List Nat) (s : ByteArray) (w : World) (hF : ListAt w Fb Lb cap (some Mb) nm va L) (hM : PlacesAt w Mb nm L) (ha : Apart nm L) (hs : s.size ≤ maxLen) :
    Calls Try.prog 29 #[.pointer (some ⟨Fb, 0, none⟩), .string s] w fun e w' => e = .returned (.int .i64 (pos nm L s)) ∧ w' = w := by
  have hc0 := hF.c0
  have hc1 := hF.c1
  have hle := hF.le
  have hcap := hF.cap
  clear hF
  have q35 : ∀ (w : World) (r : Option Nat), (binOp .neq 35 (.map r) (.map none)).run Try.prog w = .ok (.bool (!r.isNone)) w := fun w r => run_neq_map_nil w _ _ _ r Try.underlying35
  obtain ⟨n, D, hown, hn, hD⟩ := hM
  have HD := Hid.mk' hD
  clear hD
  go_enter Try.func29, Try.ntmps29
  go_wp2_with (at_lookup; refine wpList_lookup_own_ok_int _ rfl _ _ 35 rfl 9 3 .i64 law9 Try.underlying35 Try.underlying3 (zero3 _) Mb n D rfl hown _ _ rfl (key9 hs) ?_; intro c hat hwc)
  · have h1 : Maps.has D (key s) = true := by assumption
    go_ret
    exact ⟨ret_i64 (HD.out.look ha h1 hat).symm, rfl⟩
  · have h1 : Maps.has D (key s) = false := by assumption
    go_ret
    exact ⟨ret_i64 (HD.out.lookNot h1).symm, rfl⟩
end Go.Proofs.Qxb6617816a
