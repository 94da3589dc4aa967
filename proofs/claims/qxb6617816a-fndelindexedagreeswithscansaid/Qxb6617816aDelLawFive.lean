/-
  FnDelScriptLeavesExactlyTheOthers (5): the walk.
-/
import Derived.Test.Qxb6617816aDelScript
namespace Go.Proofs.Qxb6617816a
open Go.RowKit Go.Maps
open DelPlain

theorem few {vv : VV} (h : ∀ i (h : i < vv.length), vv[i].2.2.length ≤ 65536) (i : Nat) : (vAt vv i).2.2.length ≤ 65536 := by
  unfold vAt
  split
  · exact h i _
  · simp

theorem new15_setup {w w1 w2 : World} {l : List ByteArray} {vv : VV} {xs : List Value} {pm : Option Nat} {ix : Bool} (hl : l.length ≤ 4096) (hb : Built w.heap.size w w1 l vv l.length xs) (hp : Placed l ix w1 pm w2) :
    Calls Try.prog 15 #[.slice (some ⟨w.heap.size, 0, none⟩) l.length l.length, .map pm] w2 fun e w' => ∃ Fb, e = .returned (.pointer (some ⟨Fb, 0, none⟩)) ∧ Setup w w' Fb w.heap.size w1.heap.size pm l vv (vaOf xs) := by
  refine (new15 _ _ _ pm w2).mono ?_
  rintro e w' ⟨rfl, rfl⟩
  exact ⟨_, rfl, setup_of hl hb hp.below hp.map⟩

/-- The survivors and the first place that the script empties, among the first 'k' names. -/
def Counted (l m : List ByteArray) (k s f : Nat) : Prop :=
  s = ((List.range k).filter fun i => !hasS m (nmOf l i)).length ∧ ((f = l.length ∧ ∀ i, i < k → hasS m (nmOf l i) = false) ∨ (f < k ∧ ∀ i, i < f → hasS m (nmOf l i) = false))

theorem Counted.start (l m : List ByteArray) : Counted l m 0 0 l.length := ⟨rfl, Or.inl ⟨rfl, fun _ h => absurd h (Nat.not_lt_zero _)⟩⟩

theorem Counted.no {l m : List ByteArray} {k s f : Nat} (h : Counted l m k s f) (hk : k < l.length) (hb : hasS m l[k] = false) : Counted l m (k + 1) (s + 1) f := by
  refine ⟨?_, ?_⟩
  · rw [List.range_succ, List.filter_append, List.length_append, ← h.1]
    simp [nmOf_lt hk, hb]
  · rcases h.2 with ⟨h1, h2⟩ | ⟨h1, h2⟩
    · refine Or.inl ⟨h1, fun i hi => ?_⟩
      by_cases e : i = k
      · subst e; rw [nmOf_lt hk]; exact hb
      · exact h2 i (by omega)
    · exact Or.inr ⟨by omega, h2⟩

theorem count_yes {l m : List ByteArray} {k : Nat} (hk : k < l.length) (hb : hasS m l[k] = true) : ((List.range (k + 1)).filter fun i => !hasS m (nmOf l i)).length = ((List.range k).filter fun i => !hasS m (nmOf l i)).length := by
  rw [List.range_succ, List.filter_append, List.length_append]
  simp [nmOf_lt hk, hb]

theorem Counted.yesFirst {l m : List ByteArray} {k s f : Nat} (h : Counted l m k s f) (hk : k < l.length) (hb : hasS m l[k] = true) (hf : f = l.length) : Counted l m (k + 1) s k := by
  refine ⟨by rw [count_yes hk hb]; exact h.1, Or.inr ⟨by omega, fun i hi => ?_⟩⟩
  rcases h.2 with ⟨_, h2⟩ | ⟨h1, _⟩
  · exact h2 i hi
  · omega

theorem Counted.yes {l m : List ByteArray} {k s f : Nat} (h : Counted l m k s f) (hk : k < l.length) (hb : hasS m l[k] = true) (hf : f < k) : Counted l m (k + 1) s f := by
  refine ⟨by rw [count_yes hk hb]; exact h.1, Or.inr ⟨by omega, ?_⟩⟩
  rcases h.2 with ⟨h1, h2⟩ | ⟨_, h2⟩
  · omega
  · exact h2

theorem Counted.finish {l m : List ByteArray} {s f : Nat} (h : Counted l m l.length s f) {L : List Nat} (hI : Inv l.length (fun i => hasS m (nmOf l i)) L) :
    L.length = s ∧ ∀ j (hj : j < L.length), j < f → L[j] = j := by
  refine ⟨hI.length.trans h.1.symm, fun j hj hjf => ?_⟩
  have hjl : j < l.length := Nat.lt_of_lt_of_le hj hI.le
  have h1 : L[j]? = some j := hI.2 j hjl fun i hi => by
    rcases h.2 with ⟨_, h2⟩ | ⟨_, h2⟩
    · exact h2 i (by omega)
    · exact h2 i (by omega)
  rw [List.getElem?_eq_getElem hj] at h1
  simpa using h1

theorem row_start {w4 w5 : World} {L : List Nat} {xs : List Value} (own : w5.ownsRow w4.heap.size 9 1 (.slice (some ⟨w4.heap.size, 0, none⟩) L.length L.length) L.length xs) (grow : w4.grownBy w5 none) (nm : Nat → ByteArray) : Row w4.heap.size w4 w5 (L.map nm) 0 := by
  refine ⟨⟨xs, ?_, fun j _ h => absurd h (Nat.not_lt_zero _)⟩, (Below.refl _ _).grown grow (Nat.le_refl _) (by intro k e; cases e)⟩
  rw [List.length_map]; exact own

theorem cell_in {w w' : World} {a : Addr} {v : Value} (h : Below w.heap.size w w') (hc : w.cell? a = some v) : w'.cell? a = some v :=
  (h.cell (World.block_lt_of_cell? w a hc)).trans hc

theorem NewStrs.strs {lo : Nat} {w : World} {ao : Option Addr} {l : List ByteArray} (h : NewStrs lo w ao l) : Strs w ao l := by
  rcases h with h | ⟨b, e, _, _, h⟩
  · exact Or.inl h
  · exact Or.inr ⟨b, 0, e, h⟩

theorem distinct_map {nm : Nat → ByteArray} {L : List Nat} (h : Apart nm L) : distinct (L.map nm) := by
  intro i j hi hj hlt e
  rw [List.getElem_map, List.getElem_map] at e
  have := h i j (by simpa using hi) (by simpa using hj) e
  omega

theorem idx_at {l : List ByteArray} (hd : distinct l) {i : Nat} (hi : i < l.length) : idx l l[i] = i :=
  idx_hit hi rfl fun j hj hlt e => hd i j hi hj hlt e.symm

/-- What a round of the last loop reads. -/
theorem round5 {w w3 w4 wr : World} {Fb Lb S : Nat} {pm : Option Nat} {l : List ByteArray} {vv : VV} {va : Nat → Value} {m : List ByteArray} {L : List Nat}
    (hs : Setup w w3 Fb Lb S pm l vv va) (hd : distinct l) (hF : FieldsAt w4 Fb Lb l.length pm (nmOf l) va L) (hI : Inv l.length (fun i => hasS m (nmOf l i)) L) (hM : Moved (Own Fb Lb pm) w3 w4) (hb : Below w4.heap.size w4 wr) {k : Nat} (hk : k < L.length) :
    ∃ i, i = L[k] ∧ ∃ hi : i < l.length, wr.cell? ⟨Lb, k * 2, none⟩ = some (.string l[i]) ∧ idx l l[i] = i ∧ hasS m l[i] = false ∧
      ∃ a c, wr.cell? ⟨Lb, k * 2 + 1, none⟩ = some (.slice a (vAt vv i).2.2.length c) ∧ Strs wr a (vAt vv i).2.2 := by
  obtain ⟨hi, hno⟩ := (hI.mem _).1 (List.getElem_mem hk)
  refine ⟨L[k], rfl, hi, ?_, idx_at hd hi, ?_, ?_⟩
  · rw [← nmOf_lt hi]; exact cell_in hb (hF.list.name k hk)
  · rw [← nmOf_lt hi]; exact hno
  · obtain ⟨a, c, h1, h2⟩ := hs.vals L[k] hi
    refine ⟨a, c, by rw [← h1]; exact cell_in hb (hF.list.vals k hk), h2 wr (fun j h3 h4 => ?_) (Nat.le_trans hs.size (Nat.le_trans hM.size hb.size))⟩
    have h5 : j < w3.heap.size := Nat.lt_of_lt_of_le h4 hs.size
    rw [hb.block j (Nat.lt_of_lt_of_le h5 hM.size)]
    exact hM.block j h5 fun ho => (hs.own j ho).2 ⟨h3, h4⟩

theorem chain5 {w w0 w4 wr : World} (h0 : Quiet w w0) (h4 : Below w0.heap.size w0 w4) (hr : Below w4.heap.size w4 wr) : Below w.heap.size w wr := by
  have e : w0.heap.size = w.heap.size := by rw [h0.heap]
  have h := h4.size
  exact ((h0.below _).trans (h4.mono (by omega))).trans (hr.mono (by omega))

theorem Vals.drewN {w : World} {ao : Option Addr} {vv : VV} (h : Vals w ao vv) (n : Nat) : Vals (w.drewN n) ao vv := h
theorem Quiet.drewN' {w w' : World} (h : Quiet w w') (n : Nat) : Quiet w (w'.drewN n) := ⟨h.heap, h.os, h.tape, h.output⟩
theorem few65 {n : Nat} (h : n ≤ 65536) : n ≤ maxLen := by unfold maxLen; omega

theorem quiet22 (ao bo : Option Addr) (ca cb : Nat) (l : List ByteArray) (w : World) (hl : l.length ≤ maxLen) (hS : Strs w ao l) (hT : Strs w bo l) :
    Calls Try.prog 22 #[.slice ao l.length ca, .slice bo l.length cb] w fun e w' => e = .returned (.bool true) ∧ ∃ n, w' = w.drewN n :=
  (same22 ao bo ca cb l l w hl hS hT rfl).mono fun _ _ ⟨n, he, hw⟩ => ⟨he, n, hw⟩

set_option maxRecDepth 20000 in
set_option maxHeartbeats 2000000 in
theorem main5 (ao bo co : Option Addr) (ca cb cc : Nat) (l : List ByteArray) (vv : VV) (ix : Bool) (m : List ByteArray) (w : World)
    (hl : l.length ≤ 4096) (hv : vv.length ≤ 4096) (hm : m.length ≤ 4096) (hS : Box (Strs w ao l)) (hV : Box (Vals w bo vv)) (hT : Box (Strs w co m))
    (hsz : Box (∀ s ∈ l, s.size ≤ maxLen)) (hmz : Box (∀ s ∈ m, s.size ≤ maxLen)) :
    Calls Try.prog 5 #[.slice ao l.length ca, .slice bo vv.length cb, .bool ix, .slice co m.length cc] w fun e w' => e = .returned (.bool true) ∧ Below w.heap.size w w' := by
  have big : 4096 ≤ maxLen := by unfold maxLen; omega
  have h12 := Box.mk (bytes12 ao bo co ca cb cc l vv m ix w (by omega) (by omega) (by omega) hS.out hV.out hT.out)
  have h13 := Box.mk (within13 ao bo co ca cb cc l vv m w (by omega) (by omega) (by omega) hS.out hV.out hT.out)
  have h14 := Box.mk (dist14 ao ca l w (by omega) hS.out)
  clear big
  obtain ⟨i9, hi9, hz0, hz1, hz2⟩ := info_parts info9
  go_enter Try.func5, Try.ntmps5
  go_wp2_with fail
  refine h12.out.mono ?_
  rintro e w' ⟨r, rfl, rfl⟩
  clear h12
  cases r
  · go_wp2
    go_ret
    exact ⟨rfl, Below.refl _ _⟩
  go_wp2_with fail
  refine h13.out.mono ?_
  rintro e w' ⟨r, rfl, rfl, hfew⟩
  clear h13
  cases r
  · clear hfew
    go_wp2
    go_ret
    exact ⟨rfl, Below.refl _ _⟩
  have FEW := Box.mk (hfew rfl)
  clear hfew
  go_wp2_with fail
  refine h14.out.mono ?_
  rintro e w0 ⟨r, rfl, hQ, hdd⟩
  clear h14
  have Q0 := Box.mk hQ
  clear hQ
  cases r
  · clear hdd
    go_wp2
    go_ret
    exact ⟨rfl, Q0.out.below _⟩
  have DD := Box.mk (hdd.1 rfl)
  clear hdd
  have S0 := Box.mk (hS.out.below (Q0.out.below _))
  have V0 := Box.mk (hV.out.below (Q0.out.below _))
  go_wp2_with fail
  refine (build16 ao bo ca cb l vv w0 hl hv S0.out V0.out (few FEW.out)).mono ?_
  rintro e w1 ⟨rfl, xs, hBt⟩
  have BT := Box.mk hBt
  clear hBt
  have S1 := Box.mk (S0.out.below BT.out.below)
  go_wp2_with fail
  refine (placed17 ao ca l ix w1 hl S1.out DD.out hsz.out).mono ?_
  rintro e w2 ⟨pm, rfl, hPl⟩
  have PL := Box.mk hPl
  clear hPl
  go_wp2_with fail
  refine (new15_setup hl BT.out PL.out).mono ?_
  rintro e w3 ⟨Fb, rfl, hSt⟩
  have ST := Box.mk hSt
  have hpm := Box.mk PL.out.some
  clear hSt BT PL S0 V0 S1
  go_wp2
  have T0 := Box.mk (hT.out.below (Q0.out.below _))
  have S0 := Box.mk (hS.out.below (Q0.out.below _))
  have V0 := Box.mk (hV.out.below (Q0.out.below _))
  have G0 := Box.mk (Going.start ST.out m)
  go_loopw [10] (fun i wr => ∃ k : Nat, k ≤ m.length ∧ i = .int .i64 k ∧ Box (Going w3 wr Fb w0.heap.size pm l (vaOf xs) m k)) (fun i _ => m.length - (intOf i).toNat)
  case atStart => exact ⟨0, Nat.zero_le _, rfl, G0⟩
  case round =>
    clear G0
    obtain ⟨k, hk, rfl, hgo⟩ := hrel
    by_cases hlt : k < m.length
    · rcases T0.out.below (hgo.out.below ST.out) with rfl | ⟨b, off, rfl, hc⟩
      · simp at hlt
      have hck := hc k hlt
      clear hc
      go_wp2_with fail
      refine (del_going ST.out DD.out hsz.out hmz.out hgo.out hlt).mono ?_
      rintro e w4 ⟨rfl, hgo'⟩
      have GO := Box.mk hgo'
      clear hgo' hck
      go_wp2
      go_roundw
      case rel => exact ⟨k + 1, hlt, by go_num, GO⟩
      case measure => simp [intOf]; omega
    · have ek : k = m.length := by omega
      subst ek
      clear hlt hk
      obtain ⟨⟨L, hF, hI, hM⟩⟩ := hgo
      rw [List.take_length] at hI
      have F4 := Box.mk hF
      have I4 := Box.mk hI
      have M4 := Box.mk hM
      have hLl := hI.le
      clear hF hI hM
      have hB4 := Box.mk (ST.out.below.trans (M4.out.below ST.out.below.size fun k hk => (ST.out.own k hk).1))
      go_wp2_with fail
      refine (list19 Fb _ _ _ wr F4.out.list.c0).mono ?_
      rintro e w4 ⟨rfl, rfl⟩
      go_wp2
      have S4 := Box.mk (S0.out.below hB4.out)
      have T4 := Box.mk (T0.out.below hB4.out)
      have V4 := Box.mk (V0.out.below hB4.out)
      go_loop [12, 13, 14] (fun sv ft i => ∃ k s f : Nat, k ≤ l.length ∧ i = .int .i64 k ∧ sv = .int .i64 s ∧ ft = .int .i64 f ∧ s ≤ k ∧ Box (Counted l m k s f)) (fun _ _ i => l.length - (intOf i).toNat)
      case atStart => exact ⟨0, 0, l.length, Nat.zero_le _, rfl, rfl, rfl, Nat.le_refl _, ⟨Counted.start l m⟩⟩
      case round =>
        obtain ⟨k, s, f, hk, rfl, rfl, rfl, hsk, hcn⟩ := hrel
        by_cases hlt : k < l.length
        · rcases S4.out with rfl | ⟨b, off, rfl, hc⟩
          · simp at hlt
          have hck := hc k hlt
          clear hc
          have h20 := Box.mk (holds20 co cc m l[k] w4 (by unfold maxLen; omega) T4.out)
          cases hb : hasS m l[k]
          · rw [hb] at h20
            have HB := Box.mk hb
            clear hb
            go_wp2_with fail
            refine h20.out.mono ?_
            rintro e w5 ⟨rfl, rfl⟩
            go_wp2
            go_round
            case rel => exact ⟨k + 1, s + 1, f, hlt, by go_num, by go_num, rfl, by omega, ⟨hcn.out.no hlt HB.out⟩⟩
            case measure => simp [intOf]; omega
          · rw [hb] at h20
            have HB := Box.mk hb
            clear hb
            rcases hcn.out.2 with ⟨hf, _⟩ | ⟨hf, _⟩
            · have hkf : (k : Int) < (f : Int) := by omega
              have HF := Box.mk hf
              clear hf
              go_wp2_with fail
              refine h20.out.mono ?_
              rintro e w5 ⟨rfl, rfl⟩
              go_wp2
              go_round
              case rel => exact ⟨k + 1, s, k, hlt, by go_num, rfl, rfl, by omega, ⟨hcn.out.yesFirst hlt HB.out HF.out⟩⟩
              case measure => simp [intOf]; omega
            · have hkf : ¬ (k : Int) < (f : Int) := by omega
              go_wp2_with fail
              refine h20.out.mono ?_
              rintro e w5 ⟨rfl, rfl⟩
              go_wp2
              go_round
              case rel => exact ⟨k + 1, s, f, hlt, by go_num, rfl, rfl, by omega, ⟨hcn.out.yes hlt HB.out hf⟩⟩
              case measure => simp [intOf]; omega
        · have ek : k = l.length := by omega
          subst ek
          obtain ⟨hs1, hf1⟩ := hcn.out.finish I4.out
          have hne : ((L.length : Int) != (s : Int)) = false := by rw [hs1]; simp
          have HF := Box.mk hf1
          clear hlt hk hcn hs1 hf1
          go_wp2_with (at_make; refine wpList_make_full _ rfl _ _ 26 rfl w4.heap.size 9 i9 (.string ⟨#[]⟩) 1 Try.underlying26 hi9 hz0 hz1 .i64 .i64 _ _ L.length rfl rfl rfl rfl (by rw [hz2]; omega) (by unfold maxLen; omega) (Nat.le_refl _) ?_; intro w5 own5 grow5)
          have R5 := Box.mk (row_start own5 grow5 (nmOf l))
          clear own5 grow5 hne
          go_loopw [16] (fun j wr => ∃ k : Nat, k ≤ L.length ∧ j = .int .i64 k ∧ Box (Row w4.heap.size w4 wr (L.map (nmOf l)) k)) (fun j _ => L.length - (intOf j).toNat)
          case atStart => exact ⟨0, Nat.zero_le _, rfl, R5⟩
          case round =>
            clear R5
            obtain ⟨k, hk, rfl, hrow⟩ := hrel
            by_cases hlt : k < L.length
            · have hck := (cell_in hrow.out.2 (F4.out.list.name k hlt))
              obtain ⟨v0, hd⟩ := hrow.out.cell (by simpa using hlt)
              have hfz := hrow.out.free k
              have hst := Box.mk (hrow.out.store (by simpa using hlt))
              rw [List.getElem_map] at hst
              go_wp2
              go_roundw
              case rel => exact ⟨k + 1, hlt, by go_num, hst⟩
              case measure => simp [intOf]; omega
            · have hnew := Box.mk (hrow.out.new (by simp; omega)).strs
              have hb5 := Box.mk hrow.out.2
              have h14 := Box.mk (dist14 (some ⟨w4.heap.size, 0, none⟩) L.length (L.map (nmOf l)) wr (by rw [List.length_map]; unfold maxLen; omega) hnew.out)
              rw [List.length_map] at h14
              have hdl := Box.mk (distinct_map (apart_of I4.out (Nat.le_refl _) DD.out))
              have ek : k = L.length := by omega
              subst ek
              clear hrow hk hlt hnew
              go_wp2_with fail
              refine h14.out.mono ?_
              rintro e w6 ⟨r, rfl, hQ6, hr⟩
              obtain rfl : r = true := hr.2 hdl.out
              have Q6 := Box.mk hQ6
              clear hQ6 hr h14
              go_wp2
              have B6 := Box.mk (hb5.out.trans (Q6.out.below _))
              go_loopw [17] (fun j wr => ∃ k : Nat, k ≤ L.length ∧ j = .int .i64 k ∧ Box (Quiet w6 wr)) (fun j _ => L.length - (intOf j).toNat)
              case atStart => exact ⟨0, Nat.zero_le _, rfl, ⟨Quiet.refl _⟩⟩
              case round =>
                obtain ⟨k, hk, rfl, hq⟩ := hrel
                have hbr := Box.mk (B6.out.trans (hq.out.below _))
                by_cases hlt : k < L.length
                · obtain ⟨i, hi, hil, hnk, hix, hno, a, c, hvk, hsv⟩ := round5 ST.out DD.out F4.out I4.out M4.out hbr.out hlt
                  have HI := Box.mk hi
                  have HSV := Box.mk hsv
                  have HB := Box.mk (show k < f → i = k from fun h => by rw [hi]; exact HF.out k hlt h)
                  clear hi hsv
                  have h21 := Box.mk (index21 ao ca l l[i] wr (by unfold maxLen; omega) (S4.out.below hbr.out))
                  have h20 := Box.mk (holds20 co cc m l[i] wr (by unfold maxLen; omega) (T4.out.below hbr.out))
                  rw [hix] at h21
                  rw [hno] at h20
                  clear hix hno
                  have V6 := Box.mk (V4.out.below hbr.out)
                  have hvl := Box.mk (few FEW.out i)
                  rcases S4.out.below hbr.out with rfl | ⟨b, off, rfl, hc⟩
                  · simp at hil
                  have hci := hc i hil
                  clear hc
                  go_wp2_with fail
                  refine h21.out.mono ?_
                  rintro e w7 ⟨rfl, rfl⟩
                  go_wp2_with fail
                  refine h20.out.mono ?_
                  rintro e w7 ⟨rfl, rfl⟩
                  clear h21 h20
                  go_wp2
                  go_quiet ((first | (go_at_call 23; exact Calls.quiet_of_same (valuesAt23 bo cb vv i _ (by unfold maxLen; omega) (V6.out.drewN _))) | (go_at_call 22; exact Calls.quiet_of (quiet22 a _ c _ _ _ (few65 hvl.out) (HSV.out.drewN _) ((V6.out.at i).drewN _)))))
                  by_cases hkf : k < f
                  · have hik : ((i : Int) != (k : Int)) = false := by rw [HB.out hkf]; simp
                    go_wp2
                    go_roundw
                    case rel => exact ⟨k + 1, hlt, by go_num, ⟨hq.out.drewN' _⟩⟩
                    case measure => simp [intOf]; omega
                  · go_wp2
                    go_roundw
                    case rel => exact ⟨k + 1, hlt, by go_num, ⟨hq.out.drewN' _⟩⟩
                    case measure => simp [intOf]; omega
                · have ek : k = L.length := by omega
                  subst ek
                  clear hlt hk
                  have FR := Box.mk (F4.out.keep (w' := wr) fun j hj => hbr.out.block j (F4.out.own_lt hj))
                  have BW := Box.mk (chain5 Q0.out hB4.out hbr.out)
                  have h24 := Box.mk (match24_any Fb w0.heap.size l.length pm ix (nmOf l) (vaOf xs) L wr FR.out hpm.out (nmOf_size hsz.out))
                  go_wp2_with fail
                  refine (places25 Fb pm wr FR.out.list.c1).mono ?_
                  rintro e w8 ⟨rfl, rfl⟩
                  go_wp2_with fail
                  refine h24.out.mono ?_
                  rintro e w9 ⟨rfl, rfl⟩
                  go_wp2
                  go_ret
                  exact ⟨rfl, BW.out⟩
end Go.Proofs.Qxb6617816a
