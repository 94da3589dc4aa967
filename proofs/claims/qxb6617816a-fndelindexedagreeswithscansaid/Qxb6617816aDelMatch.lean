/-
  ZZNewFields (15), ZZList (19), ZZPlaces (25), zzPlacesMatch (24).
-/
import Derived.Test.Qxb6617816aDelPlaces
namespace Go.Proofs.Qxb6617816a
open Go.RowKit Go.Maps
open DelPlain

set_option maxHeartbeats 400000 in
theorem new15 (a : Option Addr) (n c : Nat) (pm : Option Nat) (w : World) :
    Calls Try.prog 15 #[.slice a n c, .map pm] w fun e w' => e = .returned (.pointer (some ⟨w.heap.size, 0, none⟩)) ∧ w' = w.alloc (.cells #[.slice a n c, .map pm] 49) := by
  go_enter Try.func15, Try.ntmps15
  go_wp2
  go_ret
  exact ⟨rfl, rfl⟩

set_option maxHeartbeats 400000 in
theorem list19 (Fb : Nat) (a : Option Addr) (n c : Nat) (w : World) (h : w.cell? ⟨Fb, 0, none⟩ = some (.slice a n c)) :
    Calls Try.prog 19 #[.pointer (some ⟨Fb, 0, none⟩)] w fun e w' => e = .returned (.slice a n c) ∧ w' = w := by
  go_enter Try.func19, Try.ntmps19
  go_wp2
  go_ret
  exact ⟨rfl, rfl⟩

set_option maxHeartbeats 400000 in
theorem places25 (Fb : Nat) (pm : Option Nat) (w : World) (h : w.cell? ⟨Fb, 1, none⟩ = some (.map pm)) :
    Calls Try.prog 25 #[.pointer (some ⟨Fb, 0, none⟩)] w fun e w' => e = .returned (.map pm) ∧ w' = w := by
  go_enter Try.func25, Try.ntmps25
  go_wp2
  go_ret
  exact ⟨rfl, rfl⟩

set_option maxHeartbeats 400000 in
theorem match24_no (a : Option Addr) (n c : Nat) (w : World) :
    Calls Try.prog 24 #[.map none, .slice a n c, .bool false] w fun e w' => e = .returned (.bool true) ∧ w' = w := by
  have q35 : ∀ (w : World) (r : Option Nat), (binOp .eql 35 (.map r) (.map none)).run Try.prog w = .ok (.bool r.isNone) w := fun w r => run_eql_map_nil w _ _ _ r Try.underlying35
  go_enter Try.func24, Try.ntmps24
  go_wp2
  go_ret
  exact ⟨rfl, rfl⟩

theorem MapsTo.at {D : DataW Unit} {nm : Nat → ByteArray} {L : List Nat} (h : MapsTo D nm L) {p : Nat} (hp : p < L.length) {c : Int} (h2 : D.atKey (key (nm L[p])) (.lit (.int .i64 0)) = .lit (.int .i64 c)) : c = p := by
  have h3 := (h.hit p hp).2
  unfold i64d at h3
  rw [h2] at h3
  simpa using h3

set_option maxHeartbeats 800000 in
theorem match24 (Fb Lb cap Mb : Nat) (nm : Nat → ByteArray) (va : Nat → Value) (L : List Nat) (w : World) (hF : ListAt w Fb Lb cap (some Mb) nm va L) (hM : PlacesAt w Mb nm L) (hnm : ∀ i, (nm i).size ≤ maxLen) :
    Calls Try.prog 24 #[.map (some Mb), .slice (some ⟨Lb, 0, none⟩) L.length cap, .bool true] w fun e w' => e = .returned (.bool true) ∧ w' = w := by
  have q35 : ∀ (w : World) (r : Option Nat), (binOp .eql 35 (.map r) (.map none)).run Try.prog w = .ok (.bool r.isNone) w := fun w r => run_eql_map_nil w _ _ _ r Try.underlying35
  have hle := hF.le
  have hcap := hF.cap
  obtain ⟨n, D, hown, hn, hD⟩ := hM
  have hsz := hD.size
  have hlen := fun ty => hown.len (t := 35) (e := 3) Try.underlying35 ty
  rw [hsz] at hlen
  have BF := Box.mk hF
  have BD := Box.mk hD
  have BN := Box.mk hnm
  clear hF hD hnm hsz
  have hne : ((L.length : Int) != (L.length : Int)) = false := by simp
  go_enter Try.func24, Try.ntmps24
  go_wp2
  clear hne hlen
  go_loop [7] (fun i => ∃ k : Nat, k ≤ L.length ∧ i = .int .i64 k) (fun i => L.length - (intOf i).toNat)
  case atStart => exact ⟨0, Nat.zero_le _, rfl⟩
  case round =>
    obtain ⟨k, hk, rfl⟩ := hrel
    by_cases hlt : k < L.length
    · have hck := BF.out.name k hlt
      have hhas := (BD.out.hit k hlt).1
      go_wp2_with (at_lookup; refine wpList_lookup_own_ok_int _ rfl _ _ 35 rfl 9 3 .i64 law9 Try.underlying35 Try.underlying3 (zero3 _) Mb n D rfl hown _ _ rfl (key9 (BN.out _)) ?_; intro c hat hwc; have hcc := BD.out.at hlt hat; subst hcc; rw [hhas])
      go_round
      case rel => exact ⟨k + 1, hlt, by go_num⟩
      case measure => simp [intOf]; omega
    · go_wp2
      go_ret
      exact ⟨rfl, rfl⟩
end Go.Proofs.Qxb6617816a
