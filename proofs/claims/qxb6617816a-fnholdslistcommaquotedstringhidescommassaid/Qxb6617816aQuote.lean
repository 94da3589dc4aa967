/-
  THE WALK of zzQuoteString (11): a new string, the plain function 'Plain.quote'.
-/
import Derived.Test.Qxb6617816aComma
namespace Go.Proofs.Qxb6617816a
open Go.RowKit
open Plain

theorem info5 : (Try.prog.info? 5).map (fun i => (i.zero, i.size, i.bytes)) = some (some (.int .u8 0), 1, 1) := by kernel_rfl

/-- Bytes as the cells of a slice of bytes. -/
def BV (l : List UInt8) : List Value := l.map fun c => Value.int .u8 (c.toNat : Int)

/-- What the buffer holds behind the first 'k' bytes. -/
def cur (s : ByteArray) (k : Nat) : List UInt8 := 34 :: esc (s.data.toList.take k)

theorem cur_len (s : ByteArray) (k : Nat) (h : k ≤ s.size) : (cur s k).length ≤ 2 * k + 1 := by
  have := esc_len (s.data.toList.take k)
  rw [List.length_take] at this
  have hl : s.data.toList.length = s.size := by simp
  simp only [cur, List.length_cons]
  omega

theorem cur_one (s : ByteArray) (k : Nat) (h : k < s.size) (h1 : ¬ s[k].toNat = 34) (h2 : ¬ s[k].toNat = 92) : cur s (k + 1) = cur s k ++ [s[k]] := by
  unfold cur; rw [take_snoc s k h, esc_append]; simp [esc, h1, h2]

theorem cur_two (s : ByteArray) (k : Nat) (h : k < s.size) (h1 : s[k].toNat = 34 ∨ s[k].toNat = 92) : cur s (k + 1) = cur s k ++ [92] ++ [s[k]] := by
  unfold cur; rw [take_snoc s k h, esc_append]; simp [esc, h1]

theorem cur_all (s : ByteArray) : cur s s.size ++ [34] = quote s.data.toList := by
  unfold cur quote; rw [take_all]; simp

theorem BV_append (a b : List UInt8) : BV (a ++ b) = BV a ++ BV b := by simp [BV]
theorem BV_one (c : UInt8) : BV [c] = [.int .u8 (c.toNat : Int)] := rfl

theorem ret_str {a b : List UInt8} (h : a = b) : Ending.returned (.string ⟨a.toArray⟩) = .returned (.string ⟨b.toArray⟩) := by rw [h]

theorem Hid.mk' {p : Prop} (h : p) : Hid p := h

/-- The buffer 'C' is owned by the slice at block 'B'. -/
def Buf (B cap : Nat) (w wr : World) (C : List UInt8) : Prop :=
  wr.ownsRow B 5 1 (.slice (some ⟨B, 0, none⟩) C.length cap) C.length (BV C) ∧ Below B w wr

/-- One byte appended, the new byte laid in a block of its own first. -/
theorem Buf.push {B cap : Nat} {w wr w' : World} {C : List UInt8} (h : Buf B cap w wr C) (hB : B ≤ wr.heap.size) (o : Obj) (c : UInt8)
    (own : w'.ownsRow B 5 1 (.slice (some ⟨B, 0, none⟩) (C.length + 1) cap) (C.length + 1) (BV C ++ [.int .u8 (c.toNat : Int)])) (grow : (wr.alloc o).grownBy w' (some B)) : Buf B cap w w' (C ++ [c]) := by
  refine ⟨?_, ?_⟩
  · rw [BV_append, BV_one, List.length_append]; exact own
  · exact (h.2.alloc hB o).grown grow (by simp; omega) (by intro k e; cases e; exact Nat.le_refl _)

/-- The conversion of the owned bytes to a string. -/
theorem conv47 (w : World) (B cap : Nat) (C : List UInt8) (c : UInt8)
    (own : w.ownsRow B 5 1 (.slice (some ⟨B, 0, none⟩) (C.length + 1) cap) (C.length + 1) (BV C ++ [.int .u8 (c.toNat : Int)])) :
    (convert 47 9 (.slice (some ⟨B, 0, none⟩) (C.length + 1) cap)).run Try.prog w = .ok (.string ⟨(C ++ [c]).toArray⟩) w := by
  have h := run_convert_bytes_back (P := Try.prog) w 47 9 5 ⟨B, 0, none⟩ cap (C ++ [c]) Try.underlying47 Try.underlying5 Try.underlying9 (fun j hj => by
    have e : (⟨B, 0, none⟩ : Addr).add j = ⟨B, j, none⟩ := by unfold Addr.add; split <;> simp_all
    have hj' : j < C.length + 1 := by simpa using hj
    rw [e, own.cellAt j (by omega), ← BV_one, ← BV_append]
    unfold BV
    rw [List.getElem?_map, List.getElem?_eq_getElem hj]; rfl)
  rw [show (C ++ [c]).length = C.length + 1 by simp] at h
  exact h

theorem Buf.size {B cap : Nat} {w wr : World} {C : List UInt8} (h : Buf B cap w wr C) (hB : B ≤ w.heap.size) : B ≤ wr.heap.size := Nat.le_trans hB h.2.size

set_option maxHeartbeats 1000000 in
theorem quote11 (s : ByteArray) (w : World) (hs : s.size ≤ 524288) :
    Calls Try.prog 11 #[.string s] w fun e w' => e = .returned (.string ⟨(quote s.data.toList).toArray⟩) ∧ Below w.heap.size w w' := by
  obtain ⟨i0, hi, hz0, hz1, hz2⟩ := info_parts info5
  go_enter Try.func11, Try.ntmps11
  go_wp2_with (first
    | (at_make; refine wpList_make_own _ rfl _ _ 47 rfl w.heap.size 5 i0 (.int .u8 0) 1 Try.underlying47 hi hz0 hz1 .i64 .i64 _ (2 * s.size + 2) rfl rfl (by omega) (by rw [hz2]; omega) (by unfold maxLen; omega) (Nat.le_refl _) ?_; intro w1 own1 grow1)
    | (at_builtin; refine wpList_append_fits _ rfl (.tmp 11) (.tmp 12) 47 rfl w.heap.size 5 i0 1 Try.underlying47 hi hz1 w.heap.size 0 (2 * s.size + 2) _ rfl (own1.alloc _) ⟨w1.heap.size, 0, none⟩ 1 1 [.int .u8 34] rfl rfl (cell_one_new _ _ _) (by simp [Value.oneCell']) (by omega) ?_; intro w2 own2 grow2))
  have hb1 : Below w.heap.size w w1 := (Below.refl _ _).grown grow1 (Nat.le_refl _) (by intro k e; cases e)
  have buf0 : Buf w.heap.size (2 * s.size + 2) w w1 [] := ⟨own1, hb1⟩
  have buf1 : Buf w.heap.size (2 * s.size + 2) w w2 (cur s 0) := buf0.push hb1.size _ 34 own2 grow2
  clear own1 own2 grow1 grow2 buf0 hb1
  go_loopw [3, 4] (fun v i wr => ∃ k : Nat, k ≤ s.size ∧ i = .int .i64 k ∧ v = .slice (some ⟨w.heap.size, 0, none⟩) (cur s k).length (2 * s.size + 2) ∧ Buf w.heap.size (2 * s.size + 2) w wr (cur s k)) (fun _ i _ => s.size - (intOf i).toNat)
  case atStart => exact ⟨0, Nat.zero_le _, rfl, rfl, buf1⟩
  case round =>
    clear buf1
    obtain ⟨k, hk, rfl, rfl, hbuf⟩ := hrel
    have hlen := cur_len s k hk
    obtain ⟨C, hC⟩ : ∃ C, C = cur s k := ⟨_, rfl⟩
    rw [← hC] at hbuf hlen ⊢
    have HC : Hid (C = cur s k) := hC
    clear hC
    have hB := hbuf.size (Nat.le_refl _)
    by_cases hlt : k < s.size
    · by_cases hc : s[k].toNat = 34 ∨ s[k].toNat = 92
      · have hor : (((s[k].toNat : Int) == 34) = true) ∨ (((s[k].toNat : Int) == 34) = false ∧ ((s[k].toNat : Int) == 92) = true) := by
          rcases hc with hc | hc
          · left; simp; omega
          · right; simp; omega
        have HD : Hid (s[k].toNat = 34 ∨ s[k].toNat = 92) := hc
        clear hc
        rcases hor with h1 | ⟨h1, h2⟩
        all_goals
          go_wp2_with (first
            | (at_builtin; refine wpList_append_fits _ rfl (.tmp 29) (.tmp 30) 47 rfl w.heap.size 5 i0 1 Try.underlying47 hi hz1 w.heap.size C.length (2 * s.size + 2) _ rfl (hbuf.1.alloc _) ⟨wr.heap.size, 0, none⟩ 1 1 [.int .u8 92] rfl rfl (cell_one_new _ _ _) (by simp [Value.oneCell']) (by omega) ?_; intro w3 own3 grow3; have hb3 := Hid.mk' (hbuf.push hB _ 92 own3 grow3))
            | (at_builtin; refine wpList_append_fits _ rfl (.tmp 32) (.tmp 34) 47 rfl w.heap.size 5 i0 1 Try.underlying47 hi hz1 w.heap.size (C.length + 1) (2 * s.size + 2) _ rfl (own3.alloc _) ⟨w3.heap.size, 0, none⟩ 1 1 [.int .u8 (s[k].toNat : Int)] rfl rfl (cell_one_new _ _ _) (by simp [Value.oneCell']) (by omega) ?_; intro w4 own4 grow4))
          have hbuf4 := hb3.out.push (hb3.out.size (Nat.le_refl _)) _ s[k] (by simpa [BV_append, BV_one] using own4) grow4
          go_roundw
          case rel => exact ⟨k + 1, hlt, by go_num, by rw [cur_two s k hlt HD.out, ← HC.out]; simp, by rw [cur_two s k hlt HD.out, ← HC.out]; exact hbuf4⟩
          case measure => simp [intOf]; omega
      · have h1 : ((s[k].toNat : Int) == 34) = false := by simp; omega
        have h2 : ((s[k].toNat : Int) == 92) = false := by simp; omega
        have e1 : ¬ s[k].toNat = 34 := fun h => hc (Or.inl h)
        have e2 : ¬ s[k].toNat = 92 := fun h => hc (Or.inr h)
        clear hc
        go_wp2_with (first
          | (at_builtin; refine wpList_append_fits _ rfl (.tmp 32) (.tmp 34) 47 rfl w.heap.size 5 i0 1 Try.underlying47 hi hz1 w.heap.size C.length (2 * s.size + 2) _ rfl (hbuf.1.alloc _) ⟨wr.heap.size, 0, none⟩ 1 1 [.int .u8 (s[k].toNat : Int)] rfl rfl (cell_one_new _ _ _) (by simp [Value.oneCell']) (by omega) ?_; intro w3 own3 grow3))
        have hbuf3 := hbuf.push hB _ s[k] own3 grow3
        clear own3 grow3
        go_roundw
        case rel => exact ⟨k + 1, hlt, by go_num, by rw [cur_one s k hlt e1 e2, ← HC.out]; simp, by rw [cur_one s k hlt e1 e2, ← HC.out]; exact hbuf3⟩
        case measure => simp [intOf]; omega
    · go_wp2_with (first
          | (at_builtin; refine wpList_append_fits _ rfl (.tmp 36) (.tmp 37) 47 rfl w.heap.size 5 i0 1 Try.underlying47 hi hz1 w.heap.size C.length (2 * s.size + 2) _ rfl (hbuf.1.alloc _) ⟨wr.heap.size, 0, none⟩ 1 1 [.int .u8 34] rfl rfl (cell_one_new _ _ _) (by simp [Value.oneCell']) (by omega) ?_; intro w3 own3 grow3; have hcv := conv47 w3 w.heap.size (2 * s.size + 2) C 34 own3))
      have hb3 := hbuf.push hB _ 34 own3 grow3
      go_ret
      exact ⟨ret_str (by rw [HC.out, show k = s.size from by omega, cur_all]), hb3.2⟩
end Go.Proofs.Qxb6617816a
