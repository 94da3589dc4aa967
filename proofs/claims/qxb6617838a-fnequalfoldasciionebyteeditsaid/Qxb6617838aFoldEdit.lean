/-
  FnEqualFoldASCIIOneByteEdit (8): the walk.
-/
import Derived.Test.Qxb6617838aFoldCut
namespace Go.Proofs.Qxb6617838a
open Go.RowKit
open Plain

set_option maxHeartbeats 400000 in
theorem bound20 (s : ByteArray) (a b : Int) (w : World) (hs : s.size ≤ maxLen) :
    Calls Try.prog 20 #[.string s, .int .i64 a, .int .u8 b] w fun e w' => e = .returned (.bool (decide (s.size ≤ 1048576))) ∧ w' = w := by
  unfold maxLen at hs
  by_cases h1 : s.size ≤ 1048576
  · go_enter Try.func20, Try.ntmps20
    go_wp2
    go_ret
    exact ⟨ret_bool (by simp [h1]), rfl⟩
  · go_enter Try.func20, Try.ntmps20
    go_wp2
    go_ret
    exact ⟨ret_bool (by simp [h1]), rfl⟩

set_option maxRecDepth 20000 in
set_option maxHeartbeats 1600000 in
theorem core8 (s : ByteArray) (k : Nat) (b : UInt8) (M N : List UInt8) (q : ByteArray) (r : Bool) (w : World) (hs : s.size ≤ 524288) (hk : k < s.size)
    (hM : Box (M = s.data.toList)) (hN : Box (N = M.set k b)) (hq : Box (q = ⟨N.toArray⟩)) (hlen : Box (M.length = s.size))
    (h20 : Box (Calls Try.prog 20 #[.string s, .int .i64 (k : Int), .int .u8 (b.toNat : Int)] w fun e w' => e = .returned (.bool true) ∧ w' = w))
    (E : Box (∀ w : World, Calls Try.prog 21 #[.int .u8 (s[k].toNat : Int), .int .u8 (b.toNat : Int)] w fun e w' => e = .returned (.bool r) ∧ w' = w))
    (F1 : Box (∀ w : World, Calls Try.prog 18 #[.string s, .string q] w fun e w' => e = .returned (.bool r) ∧ Below w.heap.size w w'))
    (F2 : Box (∀ w : World, Calls Try.prog 18 #[.string q, .string s] w fun e w' => e = .returned (.bool r) ∧ Below w.heap.size w w')) :
    Calls Try.prog 8 #[.string s, .int .i64 (k : Int), .int .u8 (b.toNat : Int)] w fun e w' => e = .returned (.bool true) ∧ Below w.heap.size w w' := by
  obtain ⟨i0, hi, hz0, hz1, hz2⟩ := info_parts info5
  have hk2 : (k : Int) < (s.size : Int) := by omega
  cases r
  all_goals
    go_enter Try.func8, Try.ntmps8
    go_wp2_with fail
    refine h20.out.mono ?_
    rintro e w0 ⟨rfl, rfl⟩
    go_wp2_with (at_make; refine wpList_make_full _ rfl _ _ 42 rfl w0.heap.size 5 i0 (.int .u8 0) 1 Try.underlying42 hi hz0 hz1 .i64 .i64 _ _ s.size rfl rfl rfl rfl (by rw [hz2]; omega) (by unfold maxLen; omega) (Nat.le_refl _) ?_; intro w1 own1 grow1)
    have R0 := Box.mk (Row.start hlen.out own1 grow1)
    clear own1 grow1
    go_loopw [8] (fun i wr => ∃ j : Nat, j ≤ s.size ∧ i = .int .i64 j ∧ Box (Row w0.heap.size w0 wr M j)) (fun i _ => s.size - (intOf i).toNat)
    case atStart => exact ⟨0, Nat.zero_le _, rfl, R0⟩
    case round =>
      clear R0
      obtain ⟨j, hj, rfl, hrow⟩ := hrel
      by_cases hlt : j < s.size
      · have hjM : j < M.length := by rw [hlen.out]; exact hlt
        obtain ⟨v0, hd⟩ := hrow.out.cell hjM
        have hfz := hrow.out.free j
        have hst := Box.mk (hrow.out.store hjM)
        have hMj : Box (M[j] = s[j]) := ⟨by have h := hM.out; subst h; rfl⟩
        rw [hMj.out] at hst
        go_wp2
        go_roundw
        case rel => exact ⟨j + 1, hlt, by go_num, hst⟩
        case measure => simp [intOf]; omega
      · have ej : j = M.length := by rw [hlen.out]; omega
        subst ej
        have hkM : k < M.length := by rw [hlen.out]; exact hk
        obtain ⟨v0, hd⟩ := hrow.out.cell hkM
        have hfz := hrow.out.free k
        have hed := Box.mk (hrow.out.edit hkM b)
        rw [← hN.out] at hed
        have hcv := hed.out.conv
        have hNl : N.length = s.size := by rw [hN.out, List.length_set, hlen.out]
        rw [hNl, ← hq.out] at hcv
        clear hNl
        go_wp2_with fail
        refine (E.out _).mono ?_
        rintro e w2 ⟨rfl, rfl⟩
        clear hcv
        have B2 := Box.mk hed.out.2
        go_wp2_with fail
        refine (F1.out _).mono ?_
        rintro e w3 ⟨rfl, hb⟩
        have B3 := Box.mk (below_next B2.out hb)
        clear hb
        go_wp2_with fail
        refine (F2.out _).mono ?_
        rintro e w4 ⟨rfl, hb⟩
        have B4 := Box.mk (below_next B3.out hb)
        clear hb
        go_wp2
        go_ret
        exact ⟨rfl, B4.out⟩

theorem main8 (s : ByteArray) (k : Nat) (b : UInt8) (w : World) (hs : s.size ≤ 524288) (hk : k < s.size) :
    Calls Try.prog 8 #[.string s, .int .i64 (k : Int), .int .u8 (b.toNat : Int)] w fun e w' => e = .returned (.bool true) ∧ Below w.heap.size w w' := by
  have big : 1048576 ≤ maxLen := by unfold maxLen; omega
  have h20 := Box.mk (bound20 s k b.toNat w (by omega))
  rw [decide_eq_true (show s.size ≤ 1048576 by omega)] at h20
  have hlen : s.data.toList.length = s.size := by simp
  have hsz : (ByteArray.mk (s.data.toList.set k b).toArray).size = s.size := by
    show (s.data.toList.set k b).toArray.size = s.size
    rw [List.size_toArray, List.length_set, hlen]
  have E := Box.mk (fun w => same21 s[k] b w)
  have F1 := Box.mk (fun w => fold18b s ⟨(s.data.toList.set k b).toArray⟩ w (by omega))
  have F2 := Box.mk (fun w => fold18b ⟨(s.data.toList.set k b).toArray⟩ s w (by omega))
  have e1 : eqf s.data.toList (s.data.toList.set k b) = same s[k] b := eqf_set s.data.toList k (by omega) b
  rw [show eqf s.data.toList (ByteArray.mk (s.data.toList.set k b).toArray).data.toList = same s[k] b from e1] at F1
  rw [show eqf (ByteArray.mk (s.data.toList.set k b).toArray).data.toList s.data.toList = same s[k] b from (eqf_comm _ _).trans e1] at F2
  exact core8 s k b _ _ _ _ w hs hk ⟨rfl⟩ ⟨rfl⟩ ⟨rfl⟩ ⟨hlen⟩ h20 E F1 F2

theorem walk8 (s : ByteArray) (k : Int) (b : Int) (w : World) (hs : s.size ≤ maxLen) (hb : 0 ≤ b ∧ b ≤ 255) :
    Calls Try.prog 8 #[.string s, .int .i64 k, .int .u8 b] w fun e w' => e = .returned (.bool true) ∧ Below w.heap.size w w' := by
  have h20 := Box.mk (bound20 s k b w hs)
  by_cases h1 : s.size ≤ 1048576
  · rw [decide_eq_true h1] at h20
    by_cases h2 : s.size ≤ 524288
    · by_cases h3 : k < 0
      · go_enter Try.func8, Try.ntmps8
        go_wp2_with fail
        refine h20.out.mono ?_
        rintro e w' ⟨rfl, rfl⟩
        go_wp2
        go_ret
        exact ⟨rfl, Below.refl _ _⟩
      · by_cases h4 : (s.size : Int) ≤ k
        · go_enter Try.func8, Try.ntmps8
          go_wp2_with fail
          refine h20.out.mono ?_
          rintro e w' ⟨rfl, rfl⟩
          go_wp2
          go_ret
          exact ⟨rfl, Below.refl _ _⟩
        · obtain ⟨n, rfl⟩ : ∃ n : Nat, k = (n : Int) := ⟨k.toNat, by omega⟩
          obtain ⟨c, hc⟩ : ∃ c : UInt8, b = (c.toNat : Int) := ⟨UInt8.ofNat b.toNat, by
            have : (UInt8.ofNat b.toNat).toNat = b.toNat := UInt8.toNat_ofNat_of_lt' (by show b.toNat < 256; omega)
            rw [this]; omega⟩
          rw [hc]
          exact main8 s n c w h2 (by omega)
    · go_enter Try.func8, Try.ntmps8
      go_wp2_with fail
      refine h20.out.mono ?_
      rintro e w' ⟨rfl, rfl⟩
      go_wp2
      go_ret
      exact ⟨rfl, Below.refl _ _⟩
  · rw [decide_eq_false h1] at h20
    go_enter Try.func8, Try.ntmps8
    go_wp2_with fail
    refine h20.out.mono ?_
    rintro e w' ⟨rfl, rfl⟩
    go_wp2
    go_ret
    exact ⟨rfl, Below.refl _ _⟩
end Go.Proofs.Qxb6617838a
