/-
  FnDelIndexedAgreesWithScan (6): the walk.
-/
import Derived.Test.Qxb6617816aDelLawFive
namespace Go.Proofs.Qxb6617816a
open Go.RowKit Go.Maps
open DelPlain

theorem new15_none {w w1 : World} {l : List ByteArray} {vv : VV} {xs : List Value} (hl : l.length ≤ 4096) (hb : Built w.heap.size w w1 l vv l.length xs) :
    Calls Try.prog 15 #[.slice (some ⟨w.heap.size, 0, none⟩) l.length l.length, .map none] w1 fun e w' => ∃ Fb, e = .returned (.pointer (some ⟨Fb, 0, none⟩)) ∧ Setup w w' Fb w.heap.size w1.heap.size none l vv (vaOf xs) := by
  refine (new15 _ _ _ none w1).mono ?_
  rintro e w' ⟨rfl, rfl⟩
  exact ⟨_, rfl, setup_of hl hb (Below.refl _ _) (fun Mb h => by cases h)⟩

/-- Two 'Fields' side by side: 'A' built first, 'B' on top of it. -/
structure Pair (w wa w3 : World) (Fa La Sa Fb Lb Sb : Nat) (pm : Option Nat) (l : List ByteArray) (vv : VV) (va vb : Nat → Value) : Prop where
  a : Setup w w3 Fa La Sa none l vv va
  b : Setup wa w3 Fb Lb Sb pm l vv vb
  lowA : ∀ k, Own Fa La none k → k < wa.heap.size
  highA : Sa ≤ wa.heap.size

theorem pair_of {w wa w3 : World} {Fa La Sa Fb Lb Sb : Nat} {pm : Option Nat} {l : List ByteArray} {vv : VV} {va vb : Nat → Value} (ha : Setup w wa Fa La Sa none l vv va) (hb : Setup wa w3 Fb Lb Sb pm l vv vb) : Pair w wa w3 Fa La Sa Fb Lb Sb pm l vv va vb :=
  ⟨ha.mono hb.below, hb, fun _ hk => ha.fields.own_lt hk, ha.size⟩

/-- The blocks of the two. -/
def Own2 (Fa La Fb Lb : Nat) (pm : Option Nat) (k : Nat) : Prop := Own Fa La none k ∨ Own Fb Lb pm k

/-- The script's state over the two: one list of places for both. -/
def Both (w3 wr : World) (Fa La Fb Lb : Nat) (pm : Option Nat) (l : List ByteArray) (va vb : Nat → Value) (m : List ByteArray) (k : Nat) : Prop :=
  ∃ L, FieldsAt wr Fa La l.length none (nmOf l) va L ∧ FieldsAt wr Fb Lb l.length pm (nmOf l) vb L ∧ Inv l.length (fun i => hasS (m.take k) (nmOf l i)) L ∧ Moved (Own2 Fa La Fb Lb pm) w3 wr

/-- .. between the two deletions of one round. -/
def Half (w3 wr : World) (Fa La Fb Lb : Nat) (pm : Option Nat) (l : List ByteArray) (va vb : Nat → Value) (m : List ByteArray) (k : Nat) (d : ByteArray) : Prop :=
  ∃ L, FieldsAt wr Fa La l.length none (nmOf l) va (delName (nmOf l) L d) ∧ FieldsAt wr Fb Lb l.length pm (nmOf l) vb L ∧ Inv l.length (fun i => hasS (m.take k) (nmOf l i)) L ∧ Moved (Own2 Fa La Fb Lb pm) w3 wr

section
variable {w wa w3 wr : World} {Fa La Sa Fb Lb Sb : Nat} {pm : Option Nat} {l : List ByteArray} {vv : VV} {va vb : Nat → Value} {m : List ByteArray} {k : Nat}

theorem Pair.apart (h : Pair w wa w3 Fa La Sa Fb Lb Sb pm l vv va vb) {j : Nat} (h1 : Own Fa La none j) (h2 : Own Fb Lb pm j) : False := by
  have := h.lowA j h1
  have := (h.b.own j h2).1
  omega

theorem Both.start (h : Pair w wa w3 Fa La Sa Fb Lb Sb pm l vv va vb) (m : List ByteArray) : Both w3 w3 Fa La Fb Lb pm l va vb m 0 :=
  ⟨_, h.a.fields, h.b.fields, Inv.start _ _ fun _ => rfl, Moved.refl _ _⟩

theorem del_a (hp : Pair w wa w3 Fa La Sa Fb Lb Sb pm l vv va vb) (hd : distinct l) (hsz : ∀ s ∈ l, s.size ≤ maxLen) (hmz : ∀ s ∈ m, s.size ≤ maxLen) (h : Both w3 wr Fa La Fb Lb pm l va vb m k) (hk : k < m.length) :
    Calls Try.prog 18 #[.pointer (some ⟨Fa, 0, none⟩), .string m[k]] wr fun e w' => e = .returned (.tuple #[]) ∧ Half w3 w' Fa La Fb Lb pm l va vb m k m[k] := by
  obtain ⟨L, hA, hB, hI, hM⟩ := h
  refine (del18 Fa La l.length none (nmOf l) va L m[k] wr hA (apart_of hI (Nat.le_refl _) hd) (hmz _ (List.getElem_mem hk)) (nmOf_size hsz) hp.a.slices).mono ?_
  rintro e w' ⟨rfl, hA', hM'⟩
  refine ⟨rfl, L, hA', hB.keep (fun j hj => hM'.block j (hB.own_lt hj) fun h1 => hp.apart h1 hj), hI, hM.trans (hM'.mono fun _ h => Or.inl h)⟩

theorem del_b (hp : Pair w wa w3 Fa La Sa Fb Lb Sb pm l vv va vb) (hd : distinct l) (hsz : ∀ s ∈ l, s.size ≤ maxLen) (hmz : ∀ s ∈ m, s.size ≤ maxLen) (hk : k < m.length) (h : Half w3 wr Fa La Fb Lb pm l va vb m k m[k]) :
    Calls Try.prog 18 #[.pointer (some ⟨Fb, 0, none⟩), .string m[k]] wr fun e w' => e = .returned (.tuple #[]) ∧ Both w3 w' Fa La Fb Lb pm l va vb m (k + 1) := by
  obtain ⟨L, hA, hB, hI, hM⟩ := h
  refine (del18 Fb Lb l.length pm (nmOf l) vb L m[k] wr hB (apart_of hI (Nat.le_refl _) hd) (hmz _ (List.getElem_mem hk)) (nmOf_size hsz) hp.b.slices).mono ?_
  rintro e w' ⟨rfl, hB', hM'⟩
  refine ⟨rfl, _, hA.keep (fun j hj => hM'.block j (hA.own_lt hj) fun h1 => hp.apart hj h1), hB', ?_, hM.trans (hM'.mono fun _ h => Or.inr h)⟩
  rw [List.take_succ_eq_append_getElem hk]
  exact Inv.script hd hI m[k]

theorem Pair.moved (hp : Pair w wa w3 Fa La Sa Fb Lb Sb pm l vv va vb) (hM : Moved (Own2 Fa La Fb Lb pm) w3 wr) : Below w.heap.size w wr := by
  refine hp.a.below.trans (hM.below hp.a.below.size fun j hj => ?_)
  rcases hj with h | h
  · exact (hp.a.own j h).1
  · have h1 := (hp.b.own j h).1
    have h2 := hp.lowA La (Or.inr (Or.inl rfl))
    have h3 := hp.a.low
    omega

/-- What a round of the last loop reads. -/
theorem round6 {w4 : World} {L : List Nat} (hp : Pair w wa w3 Fa La Sa Fb Lb Sb pm l vv va vb) (hA : FieldsAt w4 Fa La l.length none (nmOf l) va L) (hB : FieldsAt w4 Fb Lb l.length pm (nmOf l) vb L)
    (hI : Inv l.length (fun i => hasS m (nmOf l i)) L) (hM : Moved (Own2 Fa La Fb Lb pm) w3 w4) (hb : Below w4.heap.size w4 wr) (hk : k < L.length) :
    ∃ x ss a c a' c', wr.cell? ⟨La, k * 2, none⟩ = some (.string x) ∧ wr.cell? ⟨Lb, k * 2, none⟩ = some (.string x) ∧ hasS m x = false ∧ wr.cell? ⟨La, k * 2 + 1, none⟩ = some (.slice a (ss : List ByteArray).length c) ∧
      wr.cell? ⟨Lb, k * 2 + 1, none⟩ = some (.slice a' ss.length c') ∧ Strs wr a ss ∧ Strs wr a' ss ∧ ∃ i, ss = (vAt vv i).2.2 := by
  obtain ⟨hi, hno⟩ := (hI.mem _).1 (List.getElem_mem hk)
  obtain ⟨a, c, h1, h2⟩ := hp.a.vals L[k] hi
  obtain ⟨a', c', h1', h2'⟩ := hp.b.vals L[k] hi
  refine ⟨nmOf l L[k], (vAt vv L[k]).2.2, a, c, a', c', cell_in hb (hA.list.name k hk), cell_in hb (hB.list.name k hk), hno, by rw [← h1]; exact cell_in hb (hA.list.vals k hk), by rw [← h1']; exact cell_in hb (hB.list.vals k hk), ?_, ?_, _, rfl⟩
  · refine h2 wr (fun j h3 h4 => ?_) (Nat.le_trans hp.a.size (Nat.le_trans hM.size hb.size))
    have h5 : j < w3.heap.size := Nat.lt_of_lt_of_le h4 hp.a.size
    rw [hb.block j (Nat.lt_of_lt_of_le h5 hM.size)]
    refine hM.block j h5 fun ho => ?_
    rcases ho with ho | ho
    · exact (hp.a.own j ho).2 ⟨h3, h4⟩
    · have := (hp.b.own j ho).1
      have := hp.highA
      omega
  · refine h2' wr (fun j h3 h4 => ?_) (Nat.le_trans hp.b.size (Nat.le_trans hM.size hb.size))
    have h5 : j < w3.heap.size := Nat.lt_of_lt_of_le h4 hp.b.size
    rw [hb.block j (Nat.lt_of_lt_of_le h5 hM.size)]
    refine hM.block j h5 fun ho => ?_
    rcases ho with ho | ho
    · have := hp.lowA j ho
      have := hp.b.low
      omega
    · exact (hp.b.own j ho).2 ⟨h3, h4⟩

end

/-- The survivors among the first 'k' names. -/
def Surv (l m : List ByteArray) (k s : Nat) : Prop := s = ((List.range k).filter fun i => !hasS m (nmOf l i)).length

theorem Surv.no {l m : List ByteArray} {k s : Nat} (h : Surv l m k s) (hk : k < l.length) (hb : hasS m l[k] = false) : Surv l m (k + 1) (s + 1) := by
  unfold Surv at *
  rw [List.range_succ, List.filter_append, List.length_append, ← h]
  simp [nmOf_lt hk, hb]

theorem Surv.yes {l m : List ByteArray} {k s : Nat} (h : Surv l m k s) (hk : k < l.length) (hb : hasS m l[k] = true) : Surv l m (k + 1) s := by
  unfold Surv at *
  rw [count_yes hk hb]; exact h

set_option maxRecDepth 20000 in
set_option maxHeartbeats 2000000 in
theorem main6 (ao bo co : Option Addr) (ca cb cc : Nat) (l : List ByteArray) (vv : VV) (m : List ByteArray) (w : World)
    (hl : l.length ≤ 4096) (hv : vv.length ≤ 4096) (hm : m.length ≤ 4096) (hS : Box (Strs w ao l)) (hV : Box (Vals w bo vv)) (hT : Box (Strs w co m))
    (hsz : Box (∀ s ∈ l, s.size ≤ maxLen)) (hmz : Box (∀ s ∈ m, s.size ≤ maxLen)) :
    Calls Try.prog 6 #[.slice ao l.length ca, .slice bo vv.length cb, .slice co m.length cc] w fun e w' => e = .returned (.bool true) ∧ Below w.heap.size w w' := by
  have big : 4096 ≤ maxLen := by unfold maxLen; omega
  have h26 := Box.mk (bytes26 ao bo co ca cb cc l vv m w (by omega) (by omega) (by omega) hS.out hV.out hT.out)
  have h13 := Box.mk (within13 ao bo co ca cb cc l vv m w (by omega) (by omega) (by omega) hS.out hV.out hT.out)
  have h14 := Box.mk (dist14 ao ca l w (by omega) hS.out)
  clear big
  go_enter Try.func6, Try.ntmps6
  go_wp2_with fail
  refine h26.out.mono ?_
  rintro e w' ⟨r, rfl, rfl⟩
  clear h26
  cases r
  · go_wp2
    go_ret
    exact ⟨rfl, Below.refl _ _⟩
  go_wp2_with fail
  refine h13.out.mono ?_
  rintro e w' ⟨r, rfl, rfl, hfew⟩
  clear h13
  cases r
  · clear hfew
    go_wp2
    go_ret
    exact ⟨rfl, Below.refl _ _⟩
  have FEW := Box.mk (hfew rfl)
  clear hfew
  go_wp2_with fail
  refine h14.out.mono ?_
  rintro e w0 ⟨r, rfl, hQ, hdd⟩
  clear h14
  have Q0 := Box.mk hQ
  clear hQ
  cases r
  · clear hdd
    go_wp2
    go_ret
    exact ⟨rfl, Q0.out.below _⟩
  have DD := Box.mk (hdd.1 rfl)
  clear hdd
  have S0 := Box.mk (hS.out.below (Q0.out.below _))
  have V0 := Box.mk (hV.out.below (Q0.out.below _))
  have T0 := Box.mk (hT.out.below (Q0.out.below _))
  go_wp2_with fail
  refine (build16 ao bo ca cb l vv w0 hl hv S0.out V0.out (few FEW.out)).mono ?_
  rintro e w1 ⟨rfl, xs, hBt⟩
  have BT := Box.mk hBt
  clear hBt
  go_wp2_with fail
  refine (new15_none hl BT.out).mono ?_
  rintro e wa ⟨Fa, rfl, hSt⟩
  have SA := Box.mk hSt
  clear hSt BT
  have S1 := Box.mk (S0.out.below SA.out.below)
  have V1 := Box.mk (V0.out.below SA.out.below)
  go_wp2_with fail
  refine (build16 ao bo ca cb l vv wa hl hv S1.out V1.out (few FEW.out)).mono ?_
  rintro e w2 ⟨rfl, ys, hBt⟩
  have BT := Box.mk hBt
  clear hBt
  have S2 := Box.mk (S1.out.below BT.out.below)
  go_wp2_with fail
  refine (placed17 ao ca l true w2 hl S2.out DD.out hsz.out).mono ?_
  rintro e w2' ⟨pm, rfl, hPl⟩
  have PL := Box.mk hPl
  clear hPl
  go_wp2_with fail
  refine (new15_setup hl BT.out PL.out).mono ?_
  rintro e w3 ⟨Fb, rfl, hSt⟩
  have PR := Box.mk (pair_of SA.out hSt)
  have hpm := Box.mk PL.out.some
  clear hSt BT PL S1 V1 S2 SA
  go_wp2
  have G0 := Box.mk (Both.start PR.out m)
  go_loopw [9] (fun i wr => ∃ k : Nat, k ≤ m.length ∧ i = .int .i64 k ∧ Box (Both w3 wr Fa w0.heap.size Fb wa.heap.size pm l (vaOf xs) (vaOf ys) m k)) (fun i _ => m.length - (intOf i).toNat)
  case atStart => exact ⟨0, Nat.zero_le _, rfl, G0⟩
  case round =>
    clear G0
    obtain ⟨k, hk, rfl, hgo⟩ := hrel
    by_cases hlt : k < m.length
    · obtain ⟨hbr⟩ : Box (Below w0.heap.size w0 wr) := by obtain ⟨L, _, _, _, hM⟩ := hgo.out; exact ⟨PR.out.moved hM⟩
      rcases T0.out.below hbr with rfl | ⟨b, off, rfl, hc⟩
      · simp at hlt
      have hck := hc k hlt
      clear hc hbr
      go_wp2_with fail
      refine (del_a PR.out DD.out hsz.out hmz.out hgo.out hlt).mono ?_
      rintro e w4 ⟨rfl, hgo'⟩
      have GO := Box.mk hgo'
      clear hgo' hck
      obtain ⟨hbr⟩ : Box (Below w0.heap.size w0 w4) := by obtain ⟨L, _, _, _, hM⟩ := GO.out; exact ⟨PR.out.moved hM⟩
      rcases T0.out.below hbr with rfl | ⟨b', off', hx, hc⟩
      · simp at hlt
      cases hx
      have hck := hc k hlt
      clear hc hbr
      go_wp2_with fail
      refine (del_b PR.out DD.out hsz.out hmz.out hlt GO.out).mono ?_
      rintro e w5 ⟨rfl, hgo'⟩
      have GO2 := Box.mk hgo'
      clear hgo' hck
      go_wp2
      go_roundw
      case rel => exact ⟨k + 1, hlt, by go_num, GO2⟩
      case measure => simp [intOf]; omega
    · have ek : k = m.length := by omega
      subst ek
      clear hlt hk
      obtain ⟨⟨L, hA, hB, hI, hM⟩⟩ := hgo
      rw [List.take_length] at hI
      have A4 := Box.mk hA
      have F4 := Box.mk hB
      have I4 := Box.mk hI
      have M4 := Box.mk hM
      have hLl := hI.le
      have hB4 := Box.mk (PR.out.moved hM)
      clear hA hB hI hM
      go_wp2_with fail
      refine (list19 Fa _ _ _ wr A4.out.list.c0).mono ?_
      rintro e w4 ⟨rfl, rfl⟩
      go_wp2_with fail
      refine (list19 Fb _ _ _ w4 F4.out.list.c0).mono ?_
      rintro e w4 ⟨rfl, rfl⟩
      go_wp2
      have S4 := Box.mk (S0.out.below hB4.out)
      have T4 := Box.mk (T0.out.below hB4.out)
      go_loop [12, 13] (fun sv i => ∃ k s : Nat, k ≤ l.length ∧ i = .int .i64 k ∧ sv = .int .i64 s ∧ s ≤ k ∧ Box (Surv l m k s)) (fun _ i => l.length - (intOf i).toNat)
      case atStart => exact ⟨0, 0, Nat.zero_le _, rfl, rfl, Nat.le_refl _, ⟨rfl⟩⟩
      case round =>
        obtain ⟨k, s, hk, rfl, rfl, hsk, hcn⟩ := hrel
        by_cases hlt : k < l.length
        · rcases S4.out with rfl | ⟨b, off, rfl, hc⟩
          · simp at hlt
          have hck := hc k hlt
          clear hc
          have h20 := Box.mk (holds20 co cc m l[k] w4 (by unfold maxLen; omega) T4.out)
          cases hb : hasS m l[k]
          · rw [hb] at h20
            have HB := Box.mk hb
            clear hb
            go_wp2_with fail
            refine h20.out.mono ?_
            rintro e w5 ⟨rfl, rfl⟩
            go_wp2
            go_round
            case rel => exact ⟨k + 1, s + 1, hlt, by go_num, by go_num, by omega, ⟨hcn.out.no hlt HB.out⟩⟩
            case measure => simp [intOf]; omega
          · rw [hb] at h20
            have HB := Box.mk hb
            clear hb
            go_wp2_with fail
            refine h20.out.mono ?_
            rintro e w5 ⟨rfl, rfl⟩
            go_wp2
            go_round
            case rel => exact ⟨k + 1, s, hlt, by go_num, rfl, by omega, ⟨hcn.out.yes hlt HB.out⟩⟩
            case measure => simp [intOf]; omega
        · have ek : k = l.length := by omega
          subst ek
          have hs1 : L.length = s := I4.out.length.trans hcn.out.symm
          have hne : ((L.length : Int) != (s : Int)) = false := by rw [hs1]; simp
          clear hlt hk hcn hs1
          go_wp2
          clear hne
          go_loopw [14] (fun j wr => ∃ k : Nat, k ≤ L.length ∧ j = .int .i64 k ∧ Box (Quiet w4 wr)) (fun j _ => L.length - (intOf j).toNat)
          case atStart => exact ⟨0, Nat.zero_le _, rfl, ⟨Quiet.refl _⟩⟩
          case round =>
            obtain ⟨k, hk, rfl, hq⟩ := hrel
            have hbr := Box.mk (hq.out.below w4.heap.size)
            by_cases hlt : k < L.length
            · obtain ⟨x, ss, a, c, a', c', hna, hnb, hno, hva, hvb, hsa, hsb, i, hss⟩ := round6 PR.out A4.out F4.out I4.out M4.out hbr.out hlt
              have hvl : Box (ss.length ≤ 65536) := ⟨by rw [hss]; exact few FEW.out i⟩
              have HA := Box.mk hsa
              have HB := Box.mk hsb
              have h20 : Box (∀ n, Calls Try.prog 20 #[.slice co m.length cc, .string x] (wr.drewN n) fun e w' => e = .returned (.bool false) ∧ w' = wr.drewN n) :=
                ⟨fun n => by have h := holds20 co cc m x (wr.drewN n) (by unfold maxLen; omega) ((T4.out.below hbr.out).drewN n); rw [hno] at h; exact h⟩
              clear hss hsa hsb hno
              have hxx : (!(x.toList == x.toList)) = false := by simp
              go_wp2
              go_quiet ((go_at_call 22; exact Calls.quiet_of (quiet22 a a' c c' ss _ (few65 hvl.out) (HA.out.drewN _) (HB.out.drewN _))))
              go_wp2_with fail
              refine (h20.out _).mono ?_
              rintro e w6 ⟨rfl, rfl⟩
              go_wp2
              go_roundw
              case rel => exact ⟨k + 1, hlt, by go_num, ⟨hq.out.drewN' _⟩⟩
              case measure => simp [intOf]; omega
            · have ek : k = L.length := by omega
              subst ek
              clear hlt hk
              have AR := Box.mk (A4.out.keep (w' := wr) fun j hj => hbr.out.block j (A4.out.own_lt hj))
              have FR := Box.mk (F4.out.keep (w' := wr) fun j hj => hbr.out.block j (F4.out.own_lt hj))
              have BW := Box.mk (chain5 Q0.out hB4.out hbr.out)
              have h24 := Box.mk (match24_any Fb wa.heap.size l.length pm true (nmOf l) (vaOf ys) L wr FR.out hpm.out (nmOf_size hsz.out))
              have q35 : ∀ (w : World) (r : Option Nat), (binOp .eql 35 (.map r) (.map none)).run Try.prog w = .ok (.bool r.isNone) w := fun w r => run_eql_map_nil w _ _ _ r Try.underlying35
              go_wp2_with fail
              refine (places25 Fa none wr AR.out.list.c1).mono ?_
              rintro e w8 ⟨rfl, rfl⟩
              go_wp2_with fail
              refine (places25 Fb pm w8 FR.out.list.c1).mono ?_
              rintro e w9 ⟨rfl, rfl⟩
              go_wp2_with fail
              refine h24.out.mono ?_
              rintro e w10 ⟨rfl, rfl⟩
              go_wp2
              go_ret
              exact ⟨rfl, BW.out⟩

set_option maxRecDepth 20000 in
set_option maxHeartbeats 800000 in
theorem walk6 (ao bo co : Option Addr) (ca cb cc : Nat) (l : List ByteArray) (vv : VV) (m : List ByteArray) (w : World)
    (hl : l.length ≤ maxLen) (hv : vv.length ≤ maxLen) (hm : m.length ≤ maxLen) (hS : Strs w ao l) (hV : Vals w bo vv) (hT : Strs w co m)
    (hsz : ∀ s ∈ l, s.size ≤ maxLen) (hmz : ∀ s ∈ m, s.size ≤ maxLen) :
    Calls Try.prog 6 #[.slice ao l.length ca, .slice bo vv.length cb, .slice co m.length cc] w fun e w' => e = .returned (.bool true) ∧ Below w.heap.size w w' := by
  have h26 := Box.mk (bytes26 ao bo co ca cb cc l vv m w hl hv hm hS hV hT)
  by_cases h1 : l.length ≤ 4096
  · by_cases h2 : vv.length ≤ 4096
    · by_cases h3 : m.length ≤ 4096
      · exact main6 ao bo co ca cb cc l vv m w h1 h2 h3 ⟨hS⟩ ⟨hV⟩ ⟨hT⟩ ⟨hsz⟩ ⟨hmz⟩
      · clear hS hV hT hsz hmz
        go_enter Try.func6, Try.ntmps6
        go_wp2_with fail
        refine h26.out.mono ?_
        rintro e w' ⟨r, rfl, rfl⟩
        cases r <;> go_wp2 <;> go_ret <;> exact ⟨rfl, Below.refl _ _⟩
    · clear hS hV hT hsz hmz
      go_enter Try.func6, Try.ntmps6
      go_wp2_with fail
      refine h26.out.mono ?_
      rintro e w' ⟨r, rfl, rfl⟩
      cases r <;> go_wp2 <;> go_ret <;> exact ⟨rfl, Below.refl _ _⟩
  · clear hS hV hT hsz hmz
    go_enter Try.func6, Try.ntmps6
    go_wp2_with fail
    refine h26.out.mono ?_
    rintro e w' ⟨r, rfl, rfl⟩
    cases r <;> go_wp2 <;> go_ret <;> exact ⟨rfl, Below.refl _ _⟩
end Go.Proofs.Qxb6617816a
