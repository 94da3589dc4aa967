/-
  New rows of bytes; zzSwapCase (19), zzSameFold (21).
-/
import Derived.Test.Qxb6617838aFoldWalks
namespace Go.Proofs.Qxb6617838a
open Go.RowKit
open Plain

theorem info5 : (Try.prog.info? 5).map (fun i => (i.zero, i.size, i.bytes)) = some (some (.int .u8 0), 1, 1) := by kernel_rfl

/-- The row at block 'B': its first 'k' bytes are laid. -/
def Row (B : Nat) (w wr : World) (l : List UInt8) (k : Nat) : Prop :=
  (∃ xs, wr.ownsRow B 5 1 (.slice (some ⟨B, 0, none⟩) l.length l.length) l.length xs ∧ ∀ j (h : j < l.length), j < k → xs[j]? = some (.int .u8 (l[j].toNat : Int))) ∧ Below B w wr

theorem Row.start {w w1 : World} {l : List UInt8} {n : Nat} {xs : List Value} (hn : l.length = n) (own : w1.ownsRow w.heap.size 5 1 (.slice (some ⟨w.heap.size, 0, none⟩) n n) n xs) (grow : w.grownBy w1 none) : Row w.heap.size w w1 l 0 := by
  subst hn
  exact ⟨⟨xs, own, fun j _ h => absurd h (Nat.not_lt_zero _)⟩, (Below.refl _ _).grown grow (Nat.le_refl _) (by intro k e; cases e)⟩

theorem Row.cell {B : Nat} {w wr : World} {l : List UInt8} {k : Nat} (h : Row B w wr l k) {j : Nat} (hj : j < l.length) : ∃ v, wr.cell? ⟨B, j, none⟩ = some v := by
  obtain ⟨⟨xs, own, _⟩, _⟩ := h
  have hl := own.1
  rw [own.cellAt j (by omega), List.getElem?_eq_getElem (by omega)]
  exact ⟨_, rfl⟩

theorem Row.free {B : Nat} {w wr : World} {l : List UInt8} {k : Nat} (h : Row B w wr l k) (j : Nat) : wr.frozen? ⟨B, j, none⟩ = false := by
  obtain ⟨⟨xs, own, _⟩, _⟩ := h
  exact own.frozenAt j

theorem Row.store {B : Nat} {w wr : World} {l : List UInt8} {k : Nat} (h : Row B w wr l k) (hk : k < l.length) : Row B w (wr.setCell ⟨B, k, none⟩ (.int .u8 (l[k].toNat : Int))) l (k + 1) := by
  obtain ⟨⟨xs, own, hx⟩, hb⟩ := h
  have hl := own.1
  refine ⟨⟨xs.set k (.int .u8 (l[k].toNat : Int)), (own.stored k _).1, fun j h hj => ?_⟩, hb.setCell (Nat.le_refl _) _⟩
  rw [List.getElem?_set]
  split
  · rename_i e; subst e; rw [if_pos (by omega)]
  · rename_i e; exact hx j h (by omega)

/-- One byte of a whole row laid anew. -/
theorem Row.edit {B : Nat} {w wr : World} {l : List UInt8} (h : Row B w wr l l.length) {k : Nat} (hk : k < l.length) (b : UInt8) : Row B w (wr.setCell ⟨B, k, none⟩ (.int .u8 (b.toNat : Int))) (l.set k b) (l.set k b).length := by
  obtain ⟨⟨xs, own, hx⟩, hb⟩ := h
  have hl := own.1
  refine ⟨⟨xs.set k (.int .u8 (b.toNat : Int)), by rw [List.length_set]; exact (own.stored k _).1, fun j h hj => ?_⟩, hb.setCell (Nat.le_refl _) _⟩
  rw [List.getElem?_set, List.getElem_set]
  have hj' : j < l.length := by simpa using h
  split
  · rename_i e; subst e; rw [if_pos (by omega)]
  · exact hx j hj' hj'

/-- The whole row as a string. -/
theorem Row.conv {B : Nat} {w wr : World} {l : List UInt8} (h : Row B w wr l l.length) : (convert 42 9 (.slice (some ⟨B, 0, none⟩) l.length l.length)).run Try.prog wr = .ok (.string ⟨l.toArray⟩) wr := by
  obtain ⟨⟨xs, own, hx⟩, hb⟩ := h
  exact run_convert_bytes_back (P := Try.prog) wr 42 9 5 ⟨B, 0, none⟩ l.length l Try.underlying42 Try.underlying5 Try.underlying9 (fun j hj => by
    have e : (⟨B, 0, none⟩ : Addr).add j = ⟨B, j, none⟩ := by unfold Addr.add; split <;> simp_all
    rw [e, own.cellAt j (by omega)]
    exact hx j hj hj)

theorem ret_str {a b : ByteArray} (h : a = b) : Ending.returned (.string a) = .returned (.string b) := by rw [h]

/-- The walk's word for 'c ^ 0x20' on a byte. -/
theorem bits_turn (c : UInt8) : bits BinOp.xor IntKind.u8 (c.toNat : Int) 32 = ((c ^^^ 32).toNat : Int) := by
  have key : ∀ n : Fin 256, bits BinOp.xor IntKind.u8 ((UInt8.ofNat n.val).toNat : Int) 32 = (((UInt8.ofNat n.val) ^^^ 32).toNat : Int) := by decide +kernel
  have := key ⟨c.toNat, c.toNat_lt⟩
  simpa only [UInt8.ofNat_toNat] using this

set_option maxHeartbeats 800000 in
theorem swap19 (s : ByteArray) (w : World) (hs : s.size ≤ 4194304) :
    Calls Try.prog 19 #[.string s] w fun e w' => e = .returned (.string ⟨(s.data.toList.map swap).toArray⟩) ∧ Below w.heap.size w w' := by
  obtain ⟨i0, hi, hz0, hz1, hz2⟩ := info_parts info5
  obtain ⟨M, hM⟩ : ∃ M, M = s.data.toList.map swap := ⟨_, rfl⟩
  rw [← hM]
  have hlen : M.length = s.size := by rw [hM]; simp
  have HM := Box.mk hM
  have HN := Box.mk hlen
  clear hM hlen
  go_enter Try.func19, Try.ntmps19
  go_wp2_with (at_make; refine wpList_make_full _ rfl _ _ 42 rfl w.heap.size 5 i0 (.int .u8 0) 1 Try.underlying42 hi hz0 hz1 .i64 .i64 _ _ s.size rfl rfl rfl rfl (by rw [hz2]; omega) (by unfold maxLen; omega) (Nat.le_refl _) ?_; intro w1 own1 grow1)
  have R0 := Box.mk (Row.start HN.out own1 grow1)
  clear own1 grow1
  go_loopw [4] (fun i wr => ∃ k : Nat, k ≤ s.size ∧ i = .int .i64 k ∧ Box (Row w.heap.size w wr M k)) (fun i _ => s.size - (intOf i).toNat)
  case atStart => exact ⟨0, Nat.zero_le _, rfl, R0⟩
  case round =>
    clear R0
    obtain ⟨k, hk, rfl, hrow⟩ := hrel
    by_cases hlt : k < s.size
    · have hkM : k < M.length := by rw [HN.out]; exact hlt
      obtain ⟨v0, hd⟩ := hrow.out.cell hkM
      have hfz := hrow.out.free k
      have hst := Box.mk (hrow.out.store hkM)
      have hMk : Box (M[k] = swap s[k]) := ⟨by have h := HM.out; subst h; rw [List.getElem_map]; rfl⟩
      rw [hMk.out] at hst
      have h25 := Box.mk (letter25 s[k] wr)
      cases hlet : letter s[k]
      · rw [hlet] at h25
        have hsw : swap s[k] = s[k] := by unfold swap; rw [hlet]; rfl
        rw [hsw] at hst
        clear hsw hlet
        go_wp2_with fail
        refine h25.out.mono ?_
        rintro e w2 ⟨rfl, rfl⟩
        go_wp2
        go_roundw
        case rel => exact ⟨k + 1, hlt, by go_num, hst⟩
        case measure => simp [intOf]; omega
      · rw [hlet] at h25
        have hsw : swap s[k] = s[k] ^^^ 32 := by unfold swap; rw [hlet]; rfl
        rw [hsw, ← bits_turn] at hst
        clear hsw hlet
        go_wp2_with fail
        refine h25.out.mono ?_
        rintro e w2 ⟨rfl, rfl⟩
        go_wp2
        go_roundw
        case rel => exact ⟨k + 1, hlt, by go_num, hst⟩
        case measure => simp [intOf]; omega
    · have ek : k = M.length := by rw [HN.out]; omega
      subst ek
      have hcv := hrow.out.conv
      rw [HN.out] at hcv
      go_wp2
      go_ret
      exact ⟨rfl, hrow.out.2⟩

set_option maxHeartbeats 400000 in
theorem same21 (a b : UInt8) (w : World) :
    Calls Try.prog 21 #[.int .u8 (a.toNat : Int), .int .u8 (b.toNat : Int)] w fun e w' => e = .returned (.bool (same a b)) ∧ w' = w := by
  have hx := bits_turn a
  by_cases h1 : a = b
  · subst h1
    have e1 : ((a.toNat : Int) == (a.toNat : Int)) = true := by simp
    go_enter Try.func21, Try.ntmps21
    go_wp2
    go_ret
    exact ⟨ret_bool (by unfold same; simp), rfl⟩
  · have e1 : ((a.toNat : Int) == (b.toNat : Int)) = false := by
      have : ¬ a.toNat = b.toNat := fun h => h1 (UInt8.toNat_inj.1 h)
      simp; omega
    have h25 := Box.mk (letter25 a w)
    cases hlet : letter a
    · rw [hlet] at h25
      have R := Box.mk (show same a b = false from by unfold same; rw [hlet]; simp [h1])
      clear hlet h1
      go_enter Try.func21, Try.ntmps21
      go_wp2_with fail
      refine h25.out.mono ?_
      rintro e w2 ⟨rfl, rfl⟩
      go_wp2
      go_ret
      exact ⟨ret_bool R.out.symm, rfl⟩
    · rw [hlet] at h25
      have R := Box.mk (show same a b = (((a ^^^ 32).toNat : Int) == (b.toNat : Int)) from by
        unfold same
        rw [hlet, Bool.eq_iff_iff]
        simp only [h1, decide_false, Bool.false_or, Bool.true_and, decide_eq_true_eq, beq_iff_eq]
        rw [Plain.toNat_eq]; omega)
      clear hlet h1
      go_enter Try.func21, Try.ntmps21
      go_wp2_with fail
      refine h25.out.mono ?_
      rintro e w2 ⟨rfl, rfl⟩
      go_wp2
      go_ret
      exact ⟨ret_bool R.out.symm, rfl⟩
end Go.Proofs.Qxb6617838a
