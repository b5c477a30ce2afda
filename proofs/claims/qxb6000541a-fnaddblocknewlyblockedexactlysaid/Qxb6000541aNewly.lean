import Derived.Test.Qxb6000541aRec
import Derived.Test.Qxb6000541aZz16
import Derived.Deep.DeepCutAuto
namespace Go.Proofs.Qxb6000541a
open Go.RowKit Go.Maps
attribute [local go_sem ↓] Go.wp_at_zero Go.wp_at_succ

theorem cell_n {w : World} {a : Addr} {v : Value} (n : Nat) (h : w.cell? a = some v) : (w.drewN n).cell? a = some v := h

/-- In a round: the block b lies in a block of its own. -/
structure RSt (w wr : World) (pb sm ds cs : Nat) (T : List Sc) (rs rb : Value) (R : List (ByteArray × (ByteArray × (Int × ByteArray)))) (L : List (ByteArray × (ByteArray ⊕ (Int × ByteArray)))) (n bb : Nat) (d : ByteArray) (tx : Int) (co : ByteArray) : Prop where
  st : BSt w wr pb sm ds cs T rs rb R L n
  box : wr.heap[bb]? = some (.cells #[.string d, .int .i64 tx, .string co] 41 (0, 0))
  ne : rb.ownBlock ≠ some bb

theorem RSt.of_blocks {w wr w' : World} {pb sm ds cs n bb : Nat} {T : List Sc} {rs rb : Value} {R : List (ByteArray × (ByteArray × (Int × ByteArray)))} {L : List (ByteArray × (ByteArray ⊕ (Int × ByteArray)))} {d co : ByteArray} {tx : Int} (h : RSt w wr pb sm ds cs T rs rb R L n bb d tx co) (hb : ∀ k, k < wr.heap.size → w'.heap[k]? = wr.heap[k]?) (hbl : Below w.heap.size wr w') : RSt w w' pb sm ds cs T rs rb R L n bb d tx co :=
  ⟨h.st.of_blocks hb hbl, (hb bb (lt_of_heap h.box)).trans h.box, h.ne⟩
theorem RSt.alloc {w wr : World} {pb sm ds cs n bb : Nat} {T : List Sc} {rs rb : Value} {R : List (ByteArray × (ByteArray × (Int × ByteArray)))} {L : List (ByteArray × (ByteArray ⊕ (Int × ByteArray)))} {d co : ByteArray} {tx : Int} (h : RSt w wr pb sm ds cs T rs rb R L n bb d tx co) (o : Obj) : RSt w (wr.alloc o) pb sm ds cs T rs rb R L n bb d tx co :=
  h.of_blocks (fun k hk => Below.heap_alloc wr o k hk) ((Below.refl _ _).alloc h.st.below.size o)
theorem RSt.drew {w wr : World} {pb sm ds cs n bb : Nat} {T : List Sc} {rs rb : Value} {R : List (ByteArray × (ByteArray × (Int × ByteArray)))} {L : List (ByteArray × (ByteArray ⊕ (Int × ByteArray)))} {d co : ByteArray} {tx : Int} (h : RSt w wr pb sm ds cs T rs rb R L n bb d tx co) : RSt w wr.drew pb sm ds cs T rs rb R L n bb d tx co :=
  h.of_blocks (fun _ _ => rfl) ⟨rfl, rfl, rfl, Nat.le_refl _, fun _ _ => rfl⟩

theorem RSt.made {w wr w' : World} {pb sm ds cs n bb : Nat} {T : List Sc} {rs rb : Value} {R : List (ByteArray × (ByteArray × (Int × ByteArray)))} {L : List (ByteArray × (ByteArray ⊕ (Int × ByteArray)))} {d co : ByteArray} {tx : Int} (h : BSt w wr pb sm ds cs T rs rb R L n) (hle : wr.heap.size ≤ bb) (h' : BSt w w' pb sm ds cs T rs rb R L n) (hbox : w'.heap[bb]? = some (.cells #[.string d, .int .i64 tx, .string co] 41 (0, 0))) : RSt w w' pb sm ds cs T rs rb R L n bb d tx co :=
  ⟨h', hbox, fun e => by
    have := lt_of_heap (ownsRow_block h.rowb e).2.choose_spec
    omega⟩

theorem ne_new {rb : Value} {gb bb n pc m : Nat} (h : rb.ownBlock = some gb ∨ gb = m + 1) (hne : rb.ownBlock ≠ some bb) (hlt : bb < m) : (Value.slice (some ⟨gb, 0, none⟩) n pc).ownBlock ≠ some bb := by
  intro e
  have e' : gb = bb := by simpa [Value.ownBlock] using e
  rcases h with h | h
  · exact hne (by rw [h, e'])
  · omega

set_option maxHeartbeats 4000000 in
set_option maxRecDepth 100000 in
theorem newly_walk {w : World} {a1 a2 a3 a4 a5 : Option Addr} {len1 cap1 b1 off1 len2 cap2 b2 off2 len3 cap3 b3 off3 len4 cap4 b4 off4 len5 cap5 b5 off5 : Nat} {s1 s2 s3 s5 : List ByteArray} {z4 : List Int}
    (H1 : IsStrs w a1 len1 cap1 b1 off1 s1) (H2 : IsStrs w a2 len2 cap2 b2 off2 s2) (H3 : IsStrs w a3 len3 cap3 b3 off3 s3) (H4 : IsInts w a4 len4 cap4 b4 off4 z4) (H5 : IsStrs w a5 len5 cap5 b5 off5 s5) :
    Calls Try.prog 5 #[.slice a1 len1 cap1, .slice a2 len2 cap2, .slice a3 len3 cap3, .slice a4 len4 cap4, .slice a5 len5 cap5] w fun e w' => e = .returned (.bool true) ∧ Below w.heap.size w w' := by
  have HH : Hid (IsStrs w a1 len1 cap1 b1 off1 s1 ∧ IsStrs w a2 len2 cap2 b2 off2 s2 ∧ IsStrs w a3 len3 cap3 b3 off3 s3 ∧ IsInts w a4 len4 cap4 b4 off4 z4 ∧ IsStrs w a5 len5 cap5 b5 off5 s5) := ⟨H1, H2, H3, H4, H5⟩
  clear H1 H2 H3 H4 H5
  go_enter Try.func5, Try.ntmps5
  go_wp2_with fail
  refine (zzBytes16 HH.out.1 HH.out.2.1 HH.out.2.2.1 HH.out.2.2.2.1 HH.out.2.2.2.2).mono ?_
  rintro e w' ⟨⟨t, rfl⟩, hw⟩
  subst hw
  cases t
  · go_wp2_with fail
    go_ret
    exact ⟨rfl, Below.refl _ _⟩
  go_wp2_with fail
  refine (tooBig_any HH.out.1 HH.out.2.1 HH.out.2.2.1 HH.out.2.2.2.1 HH.out.2.2.2.2).mono ?_
  rintro e w1 ⟨⟨t, rfl, hsm⟩, hw⟩
  subst hw
  cases t
  case true =>
    clear hsm
    go_wp2_with fail
    go_ret
    exact ⟨rfl, Below.refl _ _⟩
  obtain ⟨q1, q2, q3, q4, q5⟩ := hsm rfl
  clear hsm
  go_wp2_with fail
  refine (minInt_nat _ _ _).mono ?_
  rintro e w2 ⟨rfl, hw⟩
  subst hw
  go_wp2_with fail
  refine (minInt_nat _ _ _).mono ?_
  rintro e w3 ⟨rfl, hw⟩
  subst hw
  go_wp2_with fail
  refine (minInt_nat _ _ _).mono ?_
  rintro e w4 ⟨rfl, hw⟩
  subst hw
  generalize hn : min (min len2 len3) (min len4 len5) = n
  have n2 : n ≤ len2 := by omega
  have n3 : n ≤ len3 := by omega
  have n4 : n ≤ len4 := by omega
  have n5 : n ≤ len5 := by omega
  clear hn
  go_wp2_with fail
  refine (mirror_any HH.out.1 q1).mono ?_
  rintro e w5 ⟨pb, sm, ds, cs, T, rfl, hA, hK, hT⟩
  have HS : Hid (BSt w4 w5 pb sm ds cs T (.slice none 0 0) (.slice none 0 0) [] [] 0) := ⟨hA, World.ownsRow_nil _ _ _ _, World.ownsRow_nil _ _ _ _, fun r hr => (by simp at hr), hK.below (Nat.le_refl _)⟩
  have HT : Hid (∀ s, (scopeAt T s).isSome = true ↔ siteIn s1 s) := hT
  clear hA hK hT q1 q3 q4 q5
  go_wp2_with fail
  go_loopw [13, 14, 15] (fun rs rb i wr => ∃ k : Nat, k ≤ n ∧ i = .int .i64 k ∧ ∃ (R : List (ByteArray × (ByteArray × (Int × ByteArray)))) (ra : Option Addr) (rp : Nat) (ba : Option Addr) (bp : Nat), rs = .slice ra R.length rp ∧ rb = .slice ba R.length bp ∧ R.length ≤ k ∧ Hid (BSt w4 wr pb sm ds cs T (.slice ra R.length rp) (.slice ba R.length bp) R (recL R) k)) (fun _ _ i _ => n - (intOf i).toNat)
  case atStart => exact ⟨0, Nat.zero_le _, rfl, [], none, 0, none, 0, rfl, rfl, Nat.le_refl _, HS⟩
  case round =>
    obtain ⟨k, hk, rfl, R, ra, rp, ba, bp, rfl, rfl, hRk, HR⟩ := hrel
    by_cases hlt : k < n
    · have x2 := HH.out.2.1.ix k (by omega)
      have x3 := HH.out.2.2.1.ix k (by omega)
      have x4 := HH.out.2.2.2.1.ix k (by omega)
      have x5 := HH.out.2.2.2.2.ix k (by omega)
      have c2 := (HH.out.2.1.below HR.out.below (Nat.le_refl _)).cell k (by omega)
      have c3 := (HH.out.2.2.1.below HR.out.below (Nat.le_refl _)).cell k (by omega)
      have c4 := (HH.out.2.2.2.1.below HR.out.below (Nat.le_refl _)).cell k (by omega)
      have c5 := (HH.out.2.2.2.2.below HR.out.below (Nat.le_refl _)).cell k (by omega)
      have Hz : Hid ((s2.getD k ByteArray.empty).size ≤ maxLen ∧ (s3.getD k ByteArray.empty).size ≤ maxLen ∧ (Lit.int .i64 (z4.getD k 0)).wf = true ∧ (s5.getD k ByteArray.empty).size ≤ maxLen) := ⟨HH.out.2.1.small k, HH.out.2.2.1.small k, HH.out.2.2.2.1.wf k, HH.out.2.2.2.2.small k⟩
      generalize s2.getD k ByteArray.empty = si at *
      generalize s3.getD k ByteArray.empty = d at *
      generalize z4.getD k 0 = tx at *
      generalize s5.getD k ByteArray.empty = co at *
      go_wp2_with fail
      go_cut [17] from 48 to 108 (fun b wx => ∃ bb, b = .pointer (some ⟨bb, 0, none⟩) ∧ Hid (RSt w4 wx pb sm ds cs T (.slice ra R.length rp) (.slice ba R.length bp) R (recL R) k bb d tx co))
      case first =>
        go_region_held3 (fun w' => w'.cell? ⟨b3, off3 + k, none⟩ = some (.string d) ∧ w'.cell? ⟨b4, off4 + k, none⟩ = some (.int .i64 tx) ∧ w'.cell? ⟨b5, off5 + k, none⟩ = some (.string co)) (first | exact ⟨cell_d c3, cell_d c4, cell_d c5⟩ | exact ⟨cell_d (cell_a c3), cell_d (cell_a c4), cell_d (cell_a c5)⟩ | exact ⟨cell_d (cell_a (cell_a c3)), cell_d (cell_a (cell_a c4)), cell_d (cell_a (cell_a c5))⟩)
          ((go_at_call 19; refine (opBlock_any _ _ _ _).mono ?_; rintro e w' ⟨rfl, rfl⟩))
        · go_wp2_with fail
          go_meet
          case rel => exact ⟨_, rfl, RSt.made HR.out (Nat.le_succ _) ((HR.out.alloc _).alloc _).drew (heap_at _ _ (by simp))⟩
        · go_wp2_with fail
          go_meet
          case rel => exact ⟨_, rfl, RSt.made HR.out (Nat.le_refl _) ((HR.out.alloc _).alloc _).drew (heap_a (heap_at _ _ (by simp)))⟩
      case rest =>
        obtain ⟨bb, rfl, HQ⟩ := hcut
        go_wp2_with fail
        refine (hasSite_any (HH.out.1.below HQ.out.st.below (Nat.le_refl _)) si).mono ?_
        rintro e w6 ⟨⟨t, rfl, ht⟩, hw⟩
        subst hw
        have HB : Hid (t = true ↔ siteIn s1 si) := ht
        clear ht
        cases t
        case false =>
          have hno : scopeAt T si = none := by
            cases hsc : scopeAt T si with
            | none => rfl
            | some c =>
              exfalso
              have h1 := (HT.out si).1 (by rw [hsc]; rfl)
              exact absurd (HB.out.2 h1) (by simp)
          have EA : Hid (ansL T (recL R) si (blkKey d tx co) = false) := by unfold Hid ansL; rw [hno]; rfl
          have ES : Hid (stepL T (recL R) si (blkKey d tx co) = recL R) := if_neg (by rw [hno]; simp)
          have HW : Hid (RSt w4 w6 pb sm ds cs T (.slice ra R.length rp) (.slice ba R.length bp) R (recL R) k bb d tx co) := HQ
          clear hno HB HQ HR x2 x3 x4 x5 c2 c3 c4 c5
          have k0 := (free_of_row HW.out.box (o := 0) (v := .string d) rfl).cell
          have k1 := (free_of_row HW.out.box (o := 1) (v := .int .i64 tx) rfl).cell
          have k2 := (free_of_row HW.out.box (o := 2) (v := .string co) rfl).cell
          go_wp2_with fail
          refine (zzadd_any HW.out.st.mir (by omega) (by simp only [recL, List.length_map]; omega) Hz.out.1 Hz.out.2.1 Hz.out.2.2.1 Hz.out.2.2.2).mono ?_
          rintro e w9 ⟨rfl, hM, hK⟩
          have HE : Hid (BSt w4 w9 pb sm ds cs T (.slice ra R.length rp) (.slice ba R.length bp) R (recL R) (k + 1)) := by
            have := HW.out.st.asked hM hK
            rw [ES.out] at this
            exact this
          clear hM hK k0 k1 k2
          rw [EA.out]
          go_wp2_with fail
          go_roundw
          case rel => exact ⟨k + 1, by omega, by go_num, R, ra, rp, ba, bp, rfl, rfl, by omega, HE⟩
          case measure => simp [intOf]; omega
        case true =>
          have HIN : Hid (siteIn s1 si) := HB.out.1 rfl
          clear x2 x3 x4 x5 c2 c3 c4 c5
          go_wp2_with fail
          go_loopw [19, 20, 21] (fun av nv j w2 => ∃ m : Nat, m ≤ R.length ∧ j = .int .i64 m ∧ av = .bool (atB ((recL R).take m) si (blkKey d tx co)) ∧ nv = .bool (anyB ((recL R).take m) (blkKey d tx co)) ∧ Hid (RSt w4 w2 pb sm ds cs T (.slice ra R.length rp) (.slice ba R.length bp) R (recL R) k bb d tx co)) (fun _ _ j _ => R.length - (intOf j).toNat)
          case atStart => exact ⟨0, Nat.zero_le _, rfl, rfl, rfl, HQ⟩
          case round =>
            obtain ⟨m, hm, rfl, rfl, rfl, HR2⟩ := hrel
            by_cases hml : m < R.length
            · obtain ⟨r, hr⟩ : ∃ r, R[m]? = some r := ⟨_, List.getElem?_eq_getElem hml⟩
              obtain ⟨gb, ixb, e0, e1, e2⟩ := rec_at HR2.out.st.rowb hr
              obtain ⟨gs, hA⟩ := isStrs_row HR2.out.st.rows (fun s hs => by simp at hs; obtain ⟨a, b, c, hc⟩ := hs; exact HR2.out.st.small _ hc)
              have ixs := hA.ix m hml
              have d1 := hA.cell m hml
              rw [List.getD_eq_getElem?_getD, List.getElem?_map, hr] at d1
              simp only [Option.map_some, Option.getD_some, Nat.zero_add] at d1 ixs
              have k0 := (free_of_row HR2.out.box (o := 0) (v := .string d) rfl).cell
              have k1 := (free_of_row HR2.out.box (o := 1) (v := .int .i64 tx) rfl).cell
              have k2 := (free_of_row HR2.out.box (o := 2) (v := .string co) rfl).cell
              have hL : (recL R)[m]? = some (r.1, blkKey r.2.1 r.2.2.1 r.2.2.2) := by simp [recL, hr]
              clear hA hr HR HQ
              by_cases hq : blkKey r.2.1 r.2.2.1 r.2.2.2 = (blkKey d tx co)
              · have EQ : Hid (decide (blkKey r.2.1 r.2.2.1 r.2.2.2 = (blkKey d tx co)) = true) := by simpa [Hid] using hq
                rw [hq] at hL
                have d1' : ∀ o o', ((wr.alloc o).alloc o').cell? ⟨gs, m, none⟩ = some (.string r.1) := fun _ _ => cell_a (cell_a d1)
                by_cases hs1 : r.1 = si
                · have t1 : (r.1.toList == si.toList) = true := eqB_true hs1
                  have HL : Hid (atB ((recL R).take (m + 1)) si (blkKey d tx co) = true ∧ anyB ((recL R).take (m + 1)) (blkKey d tx co) = true) := ⟨atB_hit (by rw [hL, hs1]), anyB_hit hL⟩
                  clear hL hq hs1
                  go_wp2_with fail
                  go_region_held3 (fun w' => w'.cell? ⟨gb, 3 * m, none⟩ = some (.string r.2.1) ∧ w'.cell? ⟨gb, 3 * m + 1, none⟩ = some (.int .i64 r.2.2.1) ∧ w'.cell? ⟨gb, 3 * m + 1 + 1, none⟩ = some (.string r.2.2.2) ∧ w'.cell? ⟨bb, 0, none⟩ = some (.string d) ∧ w'.cell? ⟨bb, 1, none⟩ = some (.int .i64 tx) ∧ w'.cell? ⟨bb, 2, none⟩ = some (.string co)) (first | exact ⟨cell_d e0, cell_d e1, cell_d e2, cell_d k0, cell_d k1, cell_d k2⟩ | exact ⟨cell_d (cell_a (cell_a e0)), cell_d (cell_a (cell_a e1)), cell_d (cell_a (cell_a e2)), cell_d (cell_a (cell_a k0)), cell_d (cell_a (cell_a k1)), cell_d (cell_a (cell_a k2))⟩)
                    ((go_at_call 21; refine (sameBlock_any _ _ _ _ _ _ _).mono ?_; rintro e w' ⟨rfl, rfl⟩; rw [EQ.out]))
                  have HR3 : Hid (RSt w4 _ pb sm ds cs T (.slice ra R.length rp) (.slice ba R.length bp) R (recL R) k bb d tx co) := ((HR2.out.alloc (.cells #[.string r.2.1, .int .i64 r.2.2.1, .string r.2.2.2] 41)).alloc (.cells #[.string d, .int .i64 tx, .string co] 41)).drew
                  clear e0 e1 e2 k0 k1 k2
                  go_wp2
                  go_roundw
                  case rel => exact ⟨m + 1, by omega, by go_num, by rw [HL.out.1], by rw [HL.out.2], HR3⟩
                  case measure => simp [intOf]; omega
                · have t1 : (r.1.toList == si.toList) = false := eqB_false hs1
                  have HL : Hid (atB ((recL R).take (m + 1)) si (blkKey d tx co) = atB ((recL R).take m) si (blkKey d tx co) ∧ anyB ((recL R).take (m + 1)) (blkKey d tx co) = true) := ⟨atB_miss hL (.inl hs1), anyB_hit hL⟩
                  clear hL hq hs1
                  go_wp2_with fail
                  go_region_held3 (fun w' => w'.cell? ⟨gb, 3 * m, none⟩ = some (.string r.2.1) ∧ w'.cell? ⟨gb, 3 * m + 1, none⟩ = some (.int .i64 r.2.2.1) ∧ w'.cell? ⟨gb, 3 * m + 1 + 1, none⟩ = some (.string r.2.2.2) ∧ w'.cell? ⟨bb, 0, none⟩ = some (.string d) ∧ w'.cell? ⟨bb, 1, none⟩ = some (.int .i64 tx) ∧ w'.cell? ⟨bb, 2, none⟩ = some (.string co)) (first | exact ⟨cell_d e0, cell_d e1, cell_d e2, cell_d k0, cell_d k1, cell_d k2⟩ | exact ⟨cell_d (cell_a (cell_a e0)), cell_d (cell_a (cell_a e1)), cell_d (cell_a (cell_a e2)), cell_d (cell_a (cell_a k0)), cell_d (cell_a (cell_a k1)), cell_d (cell_a (cell_a k2))⟩)
                    ((go_at_call 21; refine (sameBlock_any _ _ _ _ _ _ _).mono ?_; rintro e w' ⟨rfl, rfl⟩; rw [EQ.out]))
                  have HR3 : Hid (RSt w4 _ pb sm ds cs T (.slice ra R.length rp) (.slice ba R.length bp) R (recL R) k bb d tx co) := ((HR2.out.alloc (.cells #[.string r.2.1, .int .i64 r.2.2.1, .string r.2.2.2] 41)).alloc (.cells #[.string d, .int .i64 tx, .string co] 41)).drew
                  clear e0 e1 e2 k0 k1 k2
                  go_wp2
                  go_roundw
                  case rel => exact ⟨m + 1, by omega, by go_num, by rw [HL.out.1], by rw [HL.out.2], HR3⟩
                  case measure => simp [intOf]; omega
              · have EQ : Hid (decide (blkKey r.2.1 r.2.2.1 r.2.2.2 = (blkKey d tx co)) = false) := by simpa [Hid] using hq
                have HL : Hid (atB ((recL R).take (m + 1)) si (blkKey d tx co) = atB ((recL R).take m) si (blkKey d tx co) ∧ anyB ((recL R).take (m + 1)) (blkKey d tx co) = anyB ((recL R).take m) (blkKey d tx co)) := ⟨atB_miss hL (.inr hq), anyB_miss hL hq⟩
                clear hL hq
                go_wp2_with fail
                go_region_held3 (fun w' => w'.cell? ⟨gb, 3 * m, none⟩ = some (.string r.2.1) ∧ w'.cell? ⟨gb, 3 * m + 1, none⟩ = some (.int .i64 r.2.2.1) ∧ w'.cell? ⟨gb, 3 * m + 1 + 1, none⟩ = some (.string r.2.2.2) ∧ w'.cell? ⟨bb, 0, none⟩ = some (.string d) ∧ w'.cell? ⟨bb, 1, none⟩ = some (.int .i64 tx) ∧ w'.cell? ⟨bb, 2, none⟩ = some (.string co)) (first | exact ⟨cell_d e0, cell_d e1, cell_d e2, cell_d k0, cell_d k1, cell_d k2⟩ | exact ⟨cell_d (cell_a (cell_a e0)), cell_d (cell_a (cell_a e1)), cell_d (cell_a (cell_a e2)), cell_d (cell_a (cell_a k0)), cell_d (cell_a (cell_a k1)), cell_d (cell_a (cell_a k2))⟩)
                  ((go_at_call 21; refine (sameBlock_any _ _ _ _ _ _ _).mono ?_; rintro e w' ⟨rfl, rfl⟩; rw [EQ.out]))
                have HR3 : Hid (RSt w4 _ pb sm ds cs T (.slice ra R.length rp) (.slice ba R.length bp) R (recL R) k bb d tx co) := ((HR2.out.alloc (.cells #[.string r.2.1, .int .i64 r.2.2.1, .string r.2.2.2] 41)).alloc (.cells #[.string d, .int .i64 tx, .string co] 41)).drew
                clear e0 e1 e2 k0 k1 k2
                go_wp2
                go_roundw
                case rel => exact ⟨m + 1, by omega, by go_num, by rw [HL.out.1], by rw [HL.out.2], HR3⟩
                case measure => simp [intOf]; omega
            · have hml' : m = R.length := by omega
              subst hml'
              have etk : (recL R).take R.length = recL R := List.take_of_length_le (by simp [recL])
              rw [etk]
              clear etk hml hm
              have hsome : Hid ((scopeAt T si).isSome = true) := (HT.out si).2 HIN.out
              by_cases hat : atB (recL R) si (blkKey d tx co) = true
              · have EA : Hid (ansL T (recL R) si (blkKey d tx co) = false) := by
                  have h1 : hasL (recL R) si (blkKey d tx co) = true := hat
                  unfold Hid ansL; rw [h1]; simp
                have ES : Hid (stepL T (recL R) si (blkKey d tx co) = recL R) := by
                  have h1 : hasL (recL R) si (blkKey d tx co) = true := hat
                  exact if_neg (by rw [h1]; simp)
                have HW : Hid (RSt w4 wr pb sm ds cs T (.slice ra R.length rp) (.slice ba R.length bp) R (recL R) k bb d tx co) := HR2
                clear HQ HR HB
                have k0 := (free_of_row HW.out.box (o := 0) (v := .string d) rfl).cell
                have k1 := (free_of_row HW.out.box (o := 1) (v := .int .i64 tx) rfl).cell
                have k2 := (free_of_row HW.out.box (o := 2) (v := .string co) rfl).cell
                go_wp2_with fail
                refine (zzadd_any HW.out.st.mir (by omega) (by simp only [recL, List.length_map]; omega) Hz.out.1 Hz.out.2.1 Hz.out.2.2.1 Hz.out.2.2.2).mono ?_
                rintro e w9 ⟨rfl, hM, hK⟩
                have HE : Hid (BSt w4 w9 pb sm ds cs T (.slice ra R.length rp) (.slice ba R.length bp) R (recL R) (k + 1)) := by
                  have := HW.out.st.asked hM hK
                  rw [ES.out] at this
                  exact this
                clear hM hK k0 k1 k2
                rw [EA.out]
                go_wp2_with fail
                go_roundw
                case rel => exact ⟨k + 1, by omega, by go_num, R, ra, rp, ba, bp, rfl, rfl, by omega, HE⟩
                case measure => simp [intOf]; omega
              · have hat' : atB (recL R) si (blkKey d tx co) = false := by simpa using hat
                have h1 : hasL (recL R) si (blkKey d tx co) = false := hat'
                have EA : Hid (ansL T (recL R) si (blkKey d tx co) = !anyB (recL R) (blkKey d tx co)) := by
                  unfold Hid ansL anyB; rw [h1, hsome.out]; simp
                have ES : Hid (stepL T (recL R) si (blkKey d tx co) = recL (R ++ [(si, (d, (tx, co)))])) := by
                  unfold Hid; rw [recL_snoc]
                  exact if_pos ⟨hsome.out, h1⟩
                obtain ⟨i0, hi0, hz0, hz1, hz2⟩ := info_parts info9
                obtain ⟨j0, hj0, hy0, hy1, hy2⟩ := info_parts info41
                have hBs : w4.heap.size ≤ wr.heap.size := HR2.out.st.below.size
                clear HQ HR HB hat h1
                go_wp2_with (first
                  | (at_builtin; refine wpList_append_lies _ rfl (.tmp 95) (.tmp 97) 22 rfl w4.heap.size 9 i0 (.string ByteArray.empty) 1 16 Try.underlying22 hi0 hz0 hz1 hz2 rfl (by decide) (.slice ra R.length rp) R.length ((R.map Prod.fst).map .string) rfl (by exact HR2.out.st.rows.alloc _) ⟨wr.heap.size, 0, none⟩ 1 1 [.string si] rfl rfl (by exact World.news_of_block (heap_alloc_new _ _)) (by simp [Value.oneCell']) (by decide) (by unfold maxLen; omega) (by omega) (by simp; omega) (wr.heap.size + 1) (by simp) ?_; intro ga pa w7 ra1 hga ata lta; obtain ⟨am7, rb7, bl7, k41⟩ := HR2.out.st.app1 hga; have bx7 := k41 _ _ _ HR2.out.box; have k0 := (free_of_row bx7 (o := 0) (v := .string d) rfl).cell; have k1 := (free_of_row bx7 (o := 1) (v := .int .i64 tx) rfl).cell; have k2 := (free_of_row bx7 (o := 2) (v := .string co) rfl).cell; have HA : Hid (_ ∧ _) := And.intro ra1 hga; have HB7 : Hid (_ ∧ _) := And.intro rb7 (And.intro bx7 (Nat.le_trans hBs bl7.size)); clear ra1 hga ata rb7 am7 k41 bl7 bx7)
                  | (at_builtin; refine wpList_append_lies _ rfl (.tmp 99) (.tmp 101) 37 rfl w4.heap.size 41 j0 z41 3 40 Try.underlying37 hj0 hy0 hy1 hy2 rfl (by decide) (.slice ba R.length bp) R.length (recCells R) rfl (by exact HB7.out.1.alloc _) ⟨w7.heap.size, 0, none⟩ 1 1 [.string d, .int .i64 tx, .string co] rfl rfl (by exact World.news_of_block (heap_alloc_new _ _)) (by simp [Value.oneCell']) (by decide) (by unfold maxLen; omega) (by omega) (by have := HB7.out.2.2; simp; omega) (w7.heap.size + 1) (by simp) ?_; intro gb pc w8 rb1 hgb atb ltb; clear k0 k1 k2; have hap := HR2.out.st.apps Hz.out.1 HA.out.1 HA.out.2 rb1 hgb; have bx8 := hap.2 _ _ _ _ HB7.out.2.1 HR2.out.ne; have HW : Hid (RSt w4 w8 pb sm ds cs T (.slice (some ⟨ga, 0, none⟩) (R.length + 1) pa) (.slice (some ⟨gb, 0, none⟩) (R.length + 1) pc) (R ++ [(si, (d, (tx, co)))]) (recL R) k bb d tx co) := ⟨hap.1, bx8, ne_new atb HR2.out.ne (lt_of_heap HB7.out.2.1)⟩; have k0 := (free_of_row bx8 (o := 0) (v := .string d) rfl).cell; have k1 := (free_of_row bx8 (o := 1) (v := .int .i64 tx) rfl).cell; have k2 := (free_of_row bx8 (o := 2) (v := .string co) rfl).cell; clear hap bx8 rb1 hgb atb ltb))
                clear HA HB7
                refine (zzadd_any HW.out.st.mir (by omega) (by simp only [recL, List.length_map]; omega) Hz.out.1 Hz.out.2.1 Hz.out.2.2.1 Hz.out.2.2.2).mono ?_
                rintro e w9 ⟨rfl, hM, hK⟩
                have HE : Hid (BSt w4 w9 pb sm ds cs T (.slice (some ⟨ga, 0, none⟩) (R.length + 1) pa) (.slice (some ⟨gb, 0, none⟩) (R.length + 1) pc) (R ++ [(si, (d, (tx, co)))]) (recL (R ++ [(si, (d, (tx, co)))])) (k + 1)) := by
                  have := HW.out.st.asked hM hK
                  rw [ES.out] at this
                  exact this
                clear hM hK k0 k1 k2
                rw [EA.out]
                go_wp2_with fail
                go_roundw
                case rel => exact ⟨k + 1, by omega, by go_num, (R ++ [(si, (d, (tx, co)))]), some ⟨ga, 0, none⟩, pa, some ⟨gb, 0, none⟩, pc, by simp, by simp, by simp; omega, by simpa using HE⟩
                case measure => simp [intOf]; omega
    · go_wp2_with fail
      go_ret
      exact ⟨rfl, HR.out.below⟩
end Go.Proofs.Qxb6000541a
