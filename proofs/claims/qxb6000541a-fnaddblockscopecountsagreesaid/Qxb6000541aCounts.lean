import Derived.Test.Qxb6000541aCst
import Derived.Deep.DeepCutAuto
namespace Go.Proofs.Qxb6000541a
open Go.RowKit Go.Maps
attribute [local go_sem ↓] Go.wp_at_zero Go.wp_at_succ

theorem ne_new {rb : Value} {gb bb n pc m : Nat} (h : rb.ownBlock = some gb ∨ gb = m + 1) (hne : rb.ownBlock ≠ some bb) (hlt : bb < m) : (Value.slice (some ⟨gb, 0, none⟩) n pc).ownBlock ≠ some bb := by
  intro e
  have e' : gb = bb := by simpa [Value.ownBlock] using e
  rcases h with h | h
  · exact hne (by rw [h, e'])
  · omega

set_option maxHeartbeats 8000000 in
set_option maxRecDepth 100000 in
theorem counts_walk {w : World} {a1 a2 a3 a4 a5 : Option Addr} {len1 cap1 b1 off1 len2 cap2 b2 off2 len3 cap3 b3 off3 len4 cap4 b4 off4 len5 cap5 b5 off5 : Nat} {s1 s2 s3 s5 : List ByteArray} {z4 : List Int}
    (H1 : IsStrs w a1 len1 cap1 b1 off1 s1) (H2 : IsStrs w a2 len2 cap2 b2 off2 s2) (H3 : IsStrs w a3 len3 cap3 b3 off3 s3) (H4 : IsInts w a4 len4 cap4 b4 off4 z4) (H5 : IsStrs w a5 len5 cap5 b5 off5 s5) :
    Calls Try.prog 6 #[.slice a1 len1 cap1, .slice a2 len2 cap2, .slice a3 len3 cap3, .slice a4 len4 cap4, .slice a5 len5 cap5] w fun e w' => e = .returned (.bool true) ∧ Below w.heap.size w w' := by
  have HH : Hid (IsStrs w a1 len1 cap1 b1 off1 s1 ∧ IsStrs w a2 len2 cap2 b2 off2 s2 ∧ IsStrs w a3 len3 cap3 b3 off3 s3 ∧ IsInts w a4 len4 cap4 b4 off4 z4 ∧ IsStrs w a5 len5 cap5 b5 off5 s5) := ⟨H1, H2, H3, H4, H5⟩
  clear H1 H2 H3 H4 H5
  go_enter Try.func6, Try.ntmps6
  go_wp2_with fail
  refine (zzBytes23 HH.out.1 HH.out.2.1 HH.out.2.2.1 HH.out.2.2.2.1 HH.out.2.2.2.2).mono ?_
  rintro e w' ⟨⟨t, rfl⟩, hw⟩
  subst hw
  cases t
  · go_wp2_with fail
    go_ret
    exact ⟨rfl, Below.refl _ _⟩
  go_wp2_with fail
  refine (tooBig_any HH.out.1 HH.out.2.1 HH.out.2.2.1 HH.out.2.2.2.1 HH.out.2.2.2.2).mono ?_
  rintro e w1 ⟨⟨t, rfl, hsm⟩, hw⟩
  subst hw
  cases t
  case true =>
    clear hsm
    go_wp2_with fail
    go_ret
    exact ⟨rfl, Below.refl _ _⟩
  obtain ⟨q1, q2, q3, q4, q5⟩ := hsm rfl
  clear hsm
  go_wp2_with fail
  refine (minInt_nat _ _ _).mono ?_
  rintro e w2 ⟨rfl, hw⟩
  subst hw
  go_wp2_with fail
  refine (minInt_nat _ _ _).mono ?_
  rintro e w3 ⟨rfl, hw⟩
  subst hw
  go_wp2_with fail
  refine (minInt_nat _ _ _).mono ?_
  rintro e w4 ⟨rfl, hw⟩
  subst hw
  generalize hn : min (min len2 len3) (min len4 len5) = n
  have n2 : n ≤ len2 := by omega
  have n3 : n ≤ len3 := by omega
  have n4 : n ≤ len4 := by omega
  have n5 : n ≤ len5 := by omega
  clear hn
  go_wp2_with fail
  refine (mirror_any HH.out.1 q1).mono ?_
  rintro e w5 ⟨pb, sm, ds, cs, T, rfl, hA, hK, hT⟩
  have HS : Hid (AMir w5 w4.heap.size pb sm ds cs T (LTo T (opAt s2 s3 z4 s5) 0) 0 ∧ Below w4.heap.size w4 w5) := ⟨hA, hK.below (Nat.le_refl _)⟩
  have HT : Hid (∀ s, (scopeAt T s).isSome = true ↔ siteIn s1 s) := hT
  clear hA hK hT q3 q4 q5
  go_wp2_with fail
  go_loopw [13, 14] (fun tr i wr => ∃ k : Nat, k ≤ n ∧ i = .int .i64 k ∧ tr = .int .i64 (trTo T (opAt s2 s3 z4 s5) k) ∧ Hid (AMir wr w4.heap.size pb sm ds cs T (LTo T (opAt s2 s3 z4 s5) k) k ∧ Below w4.heap.size w4 wr)) (fun _ i _ => n - (intOf i).toNat)
  case atStart => exact ⟨0, Nat.zero_le _, rfl, rfl, HS⟩
  case round =>
    obtain ⟨k, hk, rfl, rfl, HR⟩ := hrel
    have htr := trTo_le T (opAt s2 s3 z4 s5) k
    by_cases hlt : k < n
    · have x2 := HH.out.2.1.ix k (by omega)
      have x3 := HH.out.2.2.1.ix k (by omega)
      have x4 := HH.out.2.2.2.1.ix k (by omega)
      have x5 := HH.out.2.2.2.2.ix k (by omega)
      have c2 := (HH.out.2.1.below HR.out.2 (Nat.le_refl _)).cell k (by omega)
      have c3 := (HH.out.2.2.1.below HR.out.2 (Nat.le_refl _)).cell k (by omega)
      have c4 := (HH.out.2.2.2.1.below HR.out.2 (Nat.le_refl _)).cell k (by omega)
      have c5 := (HH.out.2.2.2.2.below HR.out.2 (Nat.le_refl _)).cell k (by omega)
      have l2 := HH.out.2.1.low (by omega)
      have l3 := HH.out.2.2.1.low (by omega)
      have l4 := HH.out.2.2.2.1.low (by omega)
      have l5 := HH.out.2.2.2.2.low (by omega)
      have Hz : Hid ((s2.getD k ByteArray.empty).size ≤ maxLen ∧ (s3.getD k ByteArray.empty).size ≤ maxLen ∧ (Lit.int .i64 (z4.getD k 0)).wf = true ∧ (s5.getD k ByteArray.empty).size ≤ maxLen) := ⟨HH.out.2.1.small k, HH.out.2.2.1.small k, HH.out.2.2.2.1.wf k, HH.out.2.2.2.2.small k⟩
      have EO : Hid ((opAt s2 s3 z4 s5) k = (s2.getD k ByteArray.empty, blkKey (s3.getD k ByteArray.empty) (z4.getD k 0) (s5.getD k ByteArray.empty))) := rfl
      generalize s2.getD k ByteArray.empty = si at *
      generalize s3.getD k ByteArray.empty = d at *
      generalize z4.getD k 0 = tx at *
      generalize s5.getD k ByteArray.empty = co at *
      have EL : Hid (LTo T (opAt s2 s3 z4 s5) (k + 1) = stepL T (LTo T (opAt s2 s3 z4 s5) k) si (blkKey d tx co) ∧ (LTo T (opAt s2 s3 z4 s5) k).length ≤ 5000) := ⟨by show stepL T (LTo T (opAt s2 s3 z4 s5) k) ((opAt s2 s3 z4 s5) k).1 ((opAt s2 s3 z4 s5) k).2 = _; rw [EO.out], by have := LTo_length T (opAt s2 s3 z4 s5) k; omega⟩
      have ET : Hid (trTo T (opAt s2 s3 z4 s5) (k + 1) = trTo T (opAt s2 s3 z4 s5) k + if ansL T (LTo T (opAt s2 s3 z4 s5) k) si (blkKey d tx co) = true then 1 else 0) := by
        show trTo T (opAt s2 s3 z4 s5) k + (if ansL T (LTo T (opAt s2 s3 z4 s5) k) ((opAt s2 s3 z4 s5) k).1 ((opAt s2 s3 z4 s5) k).2 = true then 1 else 0) = _
        rw [EO.out]
      by_cases hans : ansL T (LTo T (opAt s2 s3 z4 s5) k) si (blkKey d tx co) = true
      · have EA : Hid (ansL T (LTo T (opAt s2 s3 z4 s5) k) si (blkKey d tx co) = true) := hans
        clear hans
        go_wp2_with fail
        go_region_held3 (fun w' => w'.cell? ⟨b2, off2 + k, none⟩ = some (.string si) ∧ w'.cell? ⟨b3, off3 + k, none⟩ = some (.string d) ∧ w'.cell? ⟨b4, off4 + k, none⟩ = some (.int .i64 tx) ∧ w'.cell? ⟨b5, off5 + k, none⟩ = some (.string co)) (first | exact ⟨cell_d c2, cell_d c3, cell_d c4, cell_d c5⟩ | exact ⟨cell_d (cell_a c2), cell_d (cell_a c3), cell_d (cell_a c4), cell_d (cell_a c5)⟩ | exact ⟨g2, g3, g4, g5⟩)
          (first | (go_at_call 19; refine (opBlock_any _ _ _ _).mono ?_; rintro e w' ⟨rfl, rfl⟩) | (go_at_call 22; refine (zzadd_any ((HR.out.1.alloc (.cells #[.string d, .int .i64 tx, .string co] 41)).drew) (by omega) EL.out.2 Hz.out.1 Hz.out.2.1 Hz.out.2.2.1 Hz.out.2.2.2).mono ?_; rintro e w9 ⟨rfl, hM, hK⟩; have hb9 : Below w4.heap.size wr w9 := ((Below.refl _ wr).alloc HR.out.2.size (.cells #[.string d, .int .i64 tx, .string co] 41)).drew.trans (hK.below (Nat.le_trans HR.out.2.size (by show wr.heap.size ≤ (wr.alloc (.cells #[.string d, .int .i64 tx, .string co] 41)).heap.size; simp))); have g2 := (hb9.cell (p := ⟨b2, off2 + k, none⟩) l2).trans c2; have g3 := (hb9.cell (p := ⟨b3, off3 + k, none⟩) l3).trans c3; have g4 := (hb9.cell (p := ⟨b4, off4 + k, none⟩) l4).trans c4; have g5 := (hb9.cell (p := ⟨b5, off5 + k, none⟩) l5).trans c5; have HE : Hid (AMir w9 w4.heap.size pb sm ds cs T (LTo T (opAt s2 s3 z4 s5) (k + 1)) (k + 1) ∧ Below w4.heap.size w4 w9) := ⟨by rw [EL.out.1]; exact hM, HR.out.2.trans hb9⟩; rw [EA.out]; clear hM hK hb9))
        clear g2 g3 g4 g5 c2 c3 c4 c5 x2 x3 x4 x5
        go_wp2
        go_roundw
        case rel => exact ⟨k + 1, by omega, by go_num, by rw [ET.out, EA.out]; go_num, HE⟩
        case measure => simp [intOf]; omega
      · have EA : Hid (ansL T (LTo T (opAt s2 s3 z4 s5) k) si (blkKey d tx co) = false) := by simpa [Hid] using hans
        clear hans
        go_wp2_with fail
        go_region_held3 (fun w' => w'.cell? ⟨b2, off2 + k, none⟩ = some (.string si) ∧ w'.cell? ⟨b3, off3 + k, none⟩ = some (.string d) ∧ w'.cell? ⟨b4, off4 + k, none⟩ = some (.int .i64 tx) ∧ w'.cell? ⟨b5, off5 + k, none⟩ = some (.string co)) (first | exact ⟨cell_d c2, cell_d c3, cell_d c4, cell_d c5⟩ | exact ⟨cell_d (cell_a c2), cell_d (cell_a c3), cell_d (cell_a c4), cell_d (cell_a c5)⟩ | exact ⟨g2, g3, g4, g5⟩)
          (first | (go_at_call 19; refine (opBlock_any _ _ _ _).mono ?_; rintro e w' ⟨rfl, rfl⟩) | (go_at_call 22; refine (zzadd_any ((HR.out.1.alloc (.cells #[.string d, .int .i64 tx, .string co] 41)).drew) (by omega) EL.out.2 Hz.out.1 Hz.out.2.1 Hz.out.2.2.1 Hz.out.2.2.2).mono ?_; rintro e w9 ⟨rfl, hM, hK⟩; have hb9 : Below w4.heap.size wr w9 := ((Below.refl _ wr).alloc HR.out.2.size (.cells #[.string d, .int .i64 tx, .string co] 41)).drew.trans (hK.below (Nat.le_trans HR.out.2.size (by show wr.heap.size ≤ (wr.alloc (.cells #[.string d, .int .i64 tx, .string co] 41)).heap.size; simp))); have g2 := (hb9.cell (p := ⟨b2, off2 + k, none⟩) l2).trans c2; have g3 := (hb9.cell (p := ⟨b3, off3 + k, none⟩) l3).trans c3; have g4 := (hb9.cell (p := ⟨b4, off4 + k, none⟩) l4).trans c4; have g5 := (hb9.cell (p := ⟨b5, off5 + k, none⟩) l5).trans c5; have HE : Hid (AMir w9 w4.heap.size pb sm ds cs T (LTo T (opAt s2 s3 z4 s5) (k + 1)) (k + 1) ∧ Below w4.heap.size w4 w9) := ⟨by rw [EL.out.1]; exact hM, HR.out.2.trans hb9⟩; rw [EA.out]; clear hM hK hb9))
        clear g2 g3 g4 g5 c2 c3 c4 c5 x2 x3 x4 x5
        go_wp2
        go_roundw
        case rel => exact ⟨k + 1, by omega, by go_num, by rw [ET.out, EA.out]; rfl, HE⟩
        case measure => simp [intOf]; omega
    · obtain rfl : k = n := by omega
      go_wp2_with fail
      refine (scopeList_any (HH.out.1.below HR.out.2 (Nat.le_refl _)) q1).mono ?_
      rintro e w6 ⟨sa, sp, rfl, hO⟩
      have HS2 : Hid (CSt w4 w6 pb sm ds cs T (LTo T (opAt s2 s3 z4 s5) k) k (.slice sa (scTo s1 len1).length sp) (scTo s1 len1) (.slice none 0 0) []) := ⟨HR.out.1.of_blocks (fun b hb _ => hO.below.block b hb), ownsRow_base HR.out.2.size hO.row, World.ownsRow_nil _ _ _ _, HR.out.2.trans (hO.below.mono HR.out.2.size)⟩
      have HSC : Hid ((scTo s1 len1).Nodup ∧ (∀ s, s ∈ scTo s1 len1 ↔ (scopeAt T s).isSome = true) ∧ (∀ s ∈ scTo s1 len1, s.size ≤ maxLen)) := ⟨scTo_nodup s1 len1, fun s => by rw [scTo_mem s1 s len1 (by have := HH.out.1.length; omega), List.take_of_length_le (by have := HH.out.1.length; omega)]; exact (HT.out s).symm, hO.small⟩
      have hscl := scTo_length s1 len1
      have hsl : (scTo s1 len1).length ≤ 4097 := by omega
      clear hO HR HS hscl hlt
      generalize scTo s1 len1 = SC at *
      go_wp2_with fail
      go_loopw [16, 17, 18] (fun rb bl i wr => ∃ j : Nat, j ≤ k ∧ i = .int .i64 j ∧ bl = .int .i64 (blkAt (LTo T (opAt s2 s3 z4 s5) k) (dTo (opAt s2 s3 z4 s5) j)) ∧ ∃ (R : List (ByteArray × (ByteArray × (Int × ByteArray)))) (ra : Option Addr) (rp : Nat), rb = .slice ra R.length rp ∧ Hid (recKeys R = dTo (opAt s2 s3 z4 s5) j) ∧ R.length ≤ j ∧ Hid (CSt w4 wr pb sm ds cs T (LTo T (opAt s2 s3 z4 s5) k) k (.slice sa SC.length sp) SC (.slice ra R.length rp) R)) (fun _ _ i _ => k - (intOf i).toNat)
      case atStart => exact ⟨0, Nat.zero_le _, rfl, rfl, [], none, 0, rfl, rfl, Nat.le_refl _, HS2⟩
      case round =>
        obtain ⟨j, hj, rfl, rfl, R, ra, rp, rfl, HD, hRj, HR⟩ := hrel
        have hbl := blkAt_le (LTo T (opAt s2 s3 z4 s5) k) (dTo (opAt s2 s3 z4 s5) j)
        have hdl := dTo_length (opAt s2 s3 z4 s5) j
        by_cases hlt : j < k
        · have x2 := HH.out.2.1.ix j (by omega)
          have x3 := HH.out.2.2.1.ix j (by omega)
          have x4 := HH.out.2.2.2.1.ix j (by omega)
          have x5 := HH.out.2.2.2.2.ix j (by omega)
          have c3 := (HH.out.2.2.1.below HR.out.below (Nat.le_refl _)).cell j (by omega)
          have c4 := (HH.out.2.2.2.1.below HR.out.below (Nat.le_refl _)).cell j (by omega)
          have c5 := (HH.out.2.2.2.2.below HR.out.below (Nat.le_refl _)).cell j (by omega)
          have HC2 : Hid (∀ w', Below w4.heap.size w4 w' → w'.cell? ⟨b2, off2 + j, none⟩ = some (.string (s2.getD j ByteArray.empty))) := fun w' hb => (HH.out.2.1.below hb (Nat.le_refl _)).cell j (by omega)
          have Hz : Hid ((s2.getD j ByteArray.empty).size ≤ maxLen ∧ (s3.getD j ByteArray.empty).size ≤ maxLen ∧ (Lit.int .i64 (z4.getD j 0)).wf = true ∧ (s5.getD j ByteArray.empty).size ≤ maxLen) := ⟨HH.out.2.1.small j, HH.out.2.2.1.small j, HH.out.2.2.2.1.wf j, HH.out.2.2.2.2.small j⟩
          have EO : Hid ((opAt s2 s3 z4 s5) j = (s2.getD j ByteArray.empty, blkKey (s3.getD j ByteArray.empty) (z4.getD j 0) (s5.getD j ByteArray.empty))) := rfl
          generalize s2.getD j ByteArray.empty = si at *
          generalize s3.getD j ByteArray.empty = d at *
          generalize z4.getD j 0 = tx at *
          generalize s5.getD j ByteArray.empty = co at *
          have ED : Hid (dTo (opAt s2 s3 z4 s5) (j + 1) = if kmem (dTo (opAt s2 s3 z4 s5) j) (blkKey d tx co) = true then dTo (opAt s2 s3 z4 s5) j else dTo (opAt s2 s3 z4 s5) j ++ [(blkKey d tx co)]) := by
            show (if kmem (dTo (opAt s2 s3 z4 s5) j) ((opAt s2 s3 z4 s5) j).2 = true then dTo (opAt s2 s3 z4 s5) j else dTo (opAt s2 s3 z4 s5) j ++ [((opAt s2 s3 z4 s5) j).2]) = _
            rw [EO.out]
          have EH : Hid ((scopeAt T si).isSome = true → hasL (LTo T (opAt s2 s3 z4 s5) k) si (blkKey d tx co) = true) := fun h => by
            have := LTo_has T (opAt s2 s3 z4 s5) (j := j) (by rw [EO.out]; exact h) k hlt
            rw [EO.out] at this
            exact this
          have EC : Hid (heldAt T (LTo T (opAt s2 s3 z4 s5) k) (blkKey d tx co) SC = cntL (LTo T (opAt s2 s3 z4 s5) k) (blkKey d tx co)) := held_count T (opAt s2 s3 z4 s5) HSC.out.1 HSC.out.2.1 (blkKey d tx co) k
          clear EO HS2
          go_wp2_with fail
          go_cut [19] from 78 to 153 (fun b wx => ∃ bb, b = .pointer (some ⟨bb, 0, none⟩) ∧ Hid (DSt w4 wx pb sm ds cs T (LTo T (opAt s2 s3 z4 s5) k) k (.slice sa SC.length sp) SC (.slice ra R.length rp) R bb d tx co))
          case first =>
            go_region_held3 (fun w' => w'.cell? ⟨b3, off3 + j, none⟩ = some (.string d) ∧ w'.cell? ⟨b4, off4 + j, none⟩ = some (.int .i64 tx) ∧ w'.cell? ⟨b5, off5 + j, none⟩ = some (.string co)) (first | exact ⟨cell_d c3, cell_d c4, cell_d c5⟩ | exact ⟨cell_d (cell_a c3), cell_d (cell_a c4), cell_d (cell_a c5)⟩ | exact ⟨cell_d (cell_a (cell_a c3)), cell_d (cell_a (cell_a c4)), cell_d (cell_a (cell_a c5))⟩)
              ((go_at_call 19; refine (opBlock_any _ _ _ _).mono ?_; rintro e w' ⟨rfl, rfl⟩))
            · go_wp2_with fail
              go_meet
              case rel => exact ⟨_, rfl, DSt.made HR.out (Nat.le_succ _) (((below_a wr _).alloc (by simp) _).drew) (heap_at _ _ (by simp))⟩
            · go_wp2_with fail
              go_meet
              case rel => exact ⟨_, rfl, DSt.made HR.out (Nat.le_refl _) (((below_a wr _).alloc (by simp) _).drew) (heap_a (heap_at _ _ (by simp)))⟩
          case rest =>
            obtain ⟨bb, rfl, HQ⟩ := hcut
            clear c3 c4 c5 x3 x4 x5 HR
            have c2 := HC2.out wc HQ.out.st.below
            have k0 := (free_of_row HQ.out.box (o := 0) (v := .string d) rfl).cell
            have k1 := (free_of_row HQ.out.box (o := 1) (v := .int .i64 tx) rfl).cell
            have k2 := (free_of_row HQ.out.box (o := 2) (v := .string co) rfl).cell
            go_wp2_with fail
            go_cut [111] from 78 to 153 (fun c wx => c = .bool false ∧ Hid (DSt w4 wx pb sm ds cs T (LTo T (opAt s2 s3 z4 s5) k) k (.slice sa SC.length sp) SC (.slice ra R.length rp) R bb d tx co))
            case first =>
              by_cases hin : siteIn s1 si
              · have EB : Hid (hasB T (LTo T (opAt s2 s3 z4 s5) k) si (blkKey d tx co) = true) := by
                  unfold Hid hasB; rw [(HT.out si).2 hin, EH.out ((HT.out si).2 hin)]; rfl
                have HIN : Hid (siteIn s1 si) := hin
                clear hin
                go_region_held3 (fun w' => w'.cell? ⟨b2, off2 + j, none⟩ = some (.string si) ∧ w'.cell? ⟨bb, 0, none⟩ = some (.string d) ∧ w'.cell? ⟨bb, 1, none⟩ = some (.int .i64 tx) ∧ w'.cell? ⟨bb, 2, none⟩ = some (.string co)) (first | exact ⟨cell_d c2, cell_d k0, cell_d k1, cell_d k2⟩ | exact ⟨g2, m0, m1, m2⟩)
                  (first | (go_at_call 20; refine (hasSite_yes (HH.out.1.below HQ.out.st.below.drew (Nat.le_refl _)) HIN.out).mono ?_; rintro e w' ⟨rfl, rfl⟩) | (go_at_call 25; refine (hasBlock_any (HQ.out.st.mir.drew) Hz.out.1 Hz.out.2.1 Hz.out.2.2.1 Hz.out.2.2.2).mono ?_; rintro e w9 ⟨rfl, hb9⟩; have hb9' : Below wc.heap.size wc w9 := (below_drew wc).trans hb9; have HQ9 : Hid (DSt w4 w9 pb sm ds cs T (LTo T (opAt s2 s3 z4 s5) k) k (.slice sa SC.length sp) SC (.slice ra R.length rp) R bb d tx co) := HQ.out.of_blocks hb9'; have g2 := HC2.out w9 HQ9.out.st.below; have m0 := (free_of_row HQ9.out.box (o := 0) (v := .string d) rfl).cell; have m1 := (free_of_row HQ9.out.box (o := 1) (v := .int .i64 tx) rfl).cell; have m2 := (free_of_row HQ9.out.box (o := 2) (v := .string co) rfl).cell; rw [EB.out]; clear hb9 hb9'))
                clear g2 m0 m1 m2 c2 k0 k1 k2
                go_wp2_with fail
                go_meet
                case rel => exact ⟨rfl, HQ9⟩
              · have HNI : Hid (¬ siteIn s1 si) := hin
                have HSN : Hid (∀ m, IsStrs (wc.drewN m) a1 len1 cap1 b1 off1 s1) := fun m => HH.out.1.below (HQ.out.st.below.trans ((below_drewN wc m).mono HQ.out.st.below.size)) (Nat.le_refl _)
                clear hin
                go_quiet ((go_at_call 20; exact Calls.quiet_of_same (hasSite_no (HSN.out _) HNI.out)))
                go_wp2_with fail
                go_meet
                case rel => exact ⟨rfl, HQ.out.of_blocks (below_drewN wc nq)⟩
            case rest =>
              clear c2 k0 k1 k2
              obtain ⟨rfl, HQ2⟩ := hcut
              clear HQ x2
              go_wp2_with fail
              go_loopw [20, 21] (fun hv jv w2 => ∃ m : Nat, m ≤ SC.length ∧ jv = .int .i64 m ∧ hv = .int .i64 (heldAt T (LTo T (opAt s2 s3 z4 s5) k) (blkKey d tx co) (SC.take m)) ∧ Hid (DSt w4 w2 pb sm ds cs T (LTo T (opAt s2 s3 z4 s5) k) k (.slice sa SC.length sp) SC (.slice ra R.length rp) R bb d tx co)) (fun _ jv _ => SC.length - (intOf jv).toNat)
              case atStart => exact ⟨0, Nat.zero_le _, rfl, rfl, HQ2⟩
              case round =>
                obtain ⟨m, hm, rfl, rfl, HR2⟩ := hrel
                have hhl := heldAt_le T (LTo T (opAt s2 s3 z4 s5) k) (blkKey d tx co) (SC.take m)
                have hht : (SC.take m).length ≤ m := List.length_take_le _ _
                by_cases hml : m < SC.length
                · obtain ⟨x, hx⟩ : ∃ x, SC[m]? = some x := ⟨_, List.getElem?_eq_getElem hml⟩
                  obtain ⟨gs, hA⟩ := isStrs_row HR2.out.st.sc HSC.out.2.2
                  have ixs := hA.ix m hml
                  have d1 := hA.cell m hml
                  rw [List.getD_eq_getElem?_getD, hx] at d1
                  simp only [Option.getD_some, Nat.zero_add] at d1 ixs
                  have zx : Hid (x.size ≤ maxLen) := HSC.out.2.2 x (List.mem_of_getElem? hx)
                  have k0 := (free_of_row HR2.out.box (o := 0) (v := .string d) rfl).cell
                  have k1 := (free_of_row HR2.out.box (o := 1) (v := .int .i64 tx) rfl).cell
                  have k2 := (free_of_row HR2.out.box (o := 2) (v := .string co) rfl).cell
                  have hgs := lt_of_cell d1
                  simp only at hgs
                  have EHT := heldAt_take (T := T) (L := (LTo T (opAt s2 s3 z4 s5) k)) (key := (blkKey d tx co)) hx
                  clear hA hx HQ2
                  by_cases hbx : hasB T (LTo T (opAt s2 s3 z4 s5) k) x (blkKey d tx co) = true
                  · have EB : Hid (hasB T (LTo T (opAt s2 s3 z4 s5) k) x (blkKey d tx co) = true) := hbx
                    have EHT2 : Hid (heldAt T (LTo T (opAt s2 s3 z4 s5) k) (blkKey d tx co) (SC.take (m + 1)) = heldAt T (LTo T (opAt s2 s3 z4 s5) k) (blkKey d tx co) (SC.take m) + 1) := by rw [hbx] at EHT; exact EHT
                    clear EHT hbx
                    go_wp2_with fail
                    go_region_held3 (fun w' => w'.cell? ⟨gs, m, none⟩ = some (.string x) ∧ w'.cell? ⟨bb, 0, none⟩ = some (.string d) ∧ w'.cell? ⟨bb, 1, none⟩ = some (.int .i64 tx) ∧ w'.cell? ⟨bb, 2, none⟩ = some (.string co)) (first | exact ⟨cell_d d1, cell_d k0, cell_d k1, cell_d k2⟩ | exact ⟨g1, m0, m1, m2⟩)
                      ((go_at_call 25; refine (hasBlock_any (HR2.out.st.mir.drew) zx.out Hz.out.2.1 Hz.out.2.2.1 Hz.out.2.2.2).mono ?_; rintro e w9 ⟨rfl, hb9⟩; have hb9' : Below wr.heap.size wr w9 := (below_drew wr).trans hb9; have HQ9 : Hid (DSt w4 w9 pb sm ds cs T (LTo T (opAt s2 s3 z4 s5) k) k (.slice sa SC.length sp) SC (.slice ra R.length rp) R bb d tx co) := HR2.out.of_blocks hb9'; have g1 := (hb9'.cell (p := ⟨gs, m, none⟩) hgs).trans d1; have m0 := (free_of_row HQ9.out.box (o := 0) (v := .string d) rfl).cell; have m1 := (free_of_row HQ9.out.box (o := 1) (v := .int .i64 tx) rfl).cell; have m2 := (free_of_row HQ9.out.box (o := 2) (v := .string co) rfl).cell; rw [EB.out]; clear hb9 hb9'))
                    clear g1 m0 m1 m2 d1 k0 k1 k2 ixs
                    go_wp2
                    go_roundw
                    case rel => exact ⟨m + 1, by omega, by go_num, by rw [EHT2.out]; go_num, HQ9⟩
                    case measure => simp [intOf]; omega
                  · have EB : Hid (hasB T (LTo T (opAt s2 s3 z4 s5) k) x (blkKey d tx co) = false) := by simpa [Hid] using hbx
                    have EHT2 : Hid (heldAt T (LTo T (opAt s2 s3 z4 s5) k) (blkKey d tx co) (SC.take (m + 1)) = heldAt T (LTo T (opAt s2 s3 z4 s5) k) (blkKey d tx co) (SC.take m)) := by rw [if_neg hbx] at EHT; exact EHT
                    clear EHT hbx
                    go_wp2_with fail
                    go_region_held3 (fun w' => w'.cell? ⟨gs, m, none⟩ = some (.string x) ∧ w'.cell? ⟨bb, 0, none⟩ = some (.string d) ∧ w'.cell? ⟨bb, 1, none⟩ = some (.int .i64 tx) ∧ w'.cell? ⟨bb, 2, none⟩ = some (.string co)) (first | exact ⟨cell_d d1, cell_d k0, cell_d k1, cell_d k2⟩ | exact ⟨g1, m0, m1, m2⟩)
                      ((go_at_call 25; refine (hasBlock_any (HR2.out.st.mir.drew) zx.out Hz.out.2.1 Hz.out.2.2.1 Hz.out.2.2.2).mono ?_; rintro e w9 ⟨rfl, hb9⟩; have hb9' : Below wr.heap.size wr w9 := (below_drew wr).trans hb9; have HQ9 : Hid (DSt w4 w9 pb sm ds cs T (LTo T (opAt s2 s3 z4 s5) k) k (.slice sa SC.length sp) SC (.slice ra R.length rp) R bb d tx co) := HR2.out.of_blocks hb9'; have g1 := (hb9'.cell (p := ⟨gs, m, none⟩) hgs).trans d1; have m0 := (free_of_row HQ9.out.box (o := 0) (v := .string d) rfl).cell; have m1 := (free_of_row HQ9.out.box (o := 1) (v := .int .i64 tx) rfl).cell; have m2 := (free_of_row HQ9.out.box (o := 2) (v := .string co) rfl).cell; rw [EB.out]; clear hb9 hb9'))
                    clear g1 m0 m1 m2 d1 k0 k1 k2 ixs
                    go_wp2
                    go_roundw
                    case rel => exact ⟨m + 1, by omega, by go_num, by rw [EHT2.out], HQ9⟩
                    case measure => simp [intOf]; omega
                · have etk : SC.take m = SC := List.take_of_length_le (by omega)
                  rw [etk, EC.out]
                  clear etk hhl hht
                  have k0 := (free_of_row HR2.out.box (o := 0) (v := .string d) rfl).cell
                  have k1 := (free_of_row HR2.out.box (o := 1) (v := .int .i64 tx) rfl).cell
                  have k2 := (free_of_row HR2.out.box (o := 2) (v := .string co) rfl).cell
                  go_wp2_with fail
                  refine (scopes_any HR2.out.st.mir Hz.out.2.1 Hz.out.2.2.1 Hz.out.2.2.2).mono ?_
                  rintro e w9 ⟨rfl, hb9⟩
                  have HQ9 : Hid (DSt w4 w9 pb sm ds cs T (LTo T (opAt s2 s3 z4 s5) k) k (.slice sa SC.length sp) SC (.slice ra R.length rp) R bb d tx co) := HR2.out.of_blocks hb9
                  clear hb9 k0 k1 k2 HR2 HQ2
                  have hcl : cntL (LTo T (opAt s2 s3 z4 s5) k) (blkKey d tx co) ≤ 4096 := by have := cntL_le (blkKey d tx co) (LTo T (opAt s2 s3 z4 s5) k); have := LTo_length T (opAt s2 s3 z4 s5) k; omega
                  go_wp2_with fail
                  go_loopw [22, 23] (fun kv jv w2 => kv = .bool false ∧ ∃ m2 : Nat, m2 ≤ R.length ∧ jv = .int .i64 m2 ∧ Hid (∀ i, i < m2 → (recKeys R)[i]? ≠ some (blkKey d tx co)) ∧ Hid (DSt w4 w2 pb sm ds cs T (LTo T (opAt s2 s3 z4 s5) k) k (.slice sa SC.length sp) SC (.slice ra R.length rp) R bb d tx co)) (fun _ jv _ => R.length - (intOf jv).toNat)
                  case atStart => exact ⟨rfl, 0, Nat.zero_le _, rfl, fun i hi => by omega, HQ9⟩
                  case round =>
                    obtain ⟨rfl, m2, hm2, rfl, HN, HR3⟩ := hrel
                    have k0 := (free_of_row HR3.out.box (o := 0) (v := .string d) rfl).cell
                    have k1 := (free_of_row HR3.out.box (o := 1) (v := .int .i64 tx) rfl).cell
                    have k2 := (free_of_row HR3.out.box (o := 2) (v := .string co) rfl).cell
                    by_cases hml2 : m2 < R.length
                    · obtain ⟨r, hr⟩ : ∃ r, R[m2]? = some r := ⟨_, List.getElem?_eq_getElem hml2⟩
                      obtain ⟨gb, ixb, e0, e1, e2⟩ := rec_at HR3.out.st.rowb hr
                      have hK : (recKeys R)[m2]? = some (blkKey r.2.1 r.2.2.1 r.2.2.2) := by simp [recKeys, hr]
                      clear hr HQ9
                      by_cases hq : blkKey r.2.1 r.2.2.1 r.2.2.2 = (blkKey d tx co)
                      · have EQ : Hid (decide (blkKey r.2.1 r.2.2.1 r.2.2.2 = (blkKey d tx co)) = true) := by simpa [Hid] using hq
                        have ED2 : Hid (dTo (opAt s2 s3 z4 s5) (j + 1) = dTo (opAt s2 s3 z4 s5) j) := ED.out.trans (if_pos ((kmem_iff _ _).2 (by rw [← HD.out, ← hq]; exact List.mem_of_getElem? hK)))
                        clear hK hq HN
                        go_wp2_with fail
                        go_region_held3 (fun w' => w'.cell? ⟨gb, 3 * m2, none⟩ = some (.string r.2.1) ∧ w'.cell? ⟨gb, 3 * m2 + 1, none⟩ = some (.int .i64 r.2.2.1) ∧ w'.cell? ⟨gb, 3 * m2 + 1 + 1, none⟩ = some (.string r.2.2.2) ∧ w'.cell? ⟨bb, 0, none⟩ = some (.string d) ∧ w'.cell? ⟨bb, 1, none⟩ = some (.int .i64 tx) ∧ w'.cell? ⟨bb, 2, none⟩ = some (.string co)) (first | exact ⟨cell_d e0, cell_d e1, cell_d e2, cell_d k0, cell_d k1, cell_d k2⟩ | exact ⟨cell_d (cell_a (cell_a e0)), cell_d (cell_a (cell_a e1)), cell_d (cell_a (cell_a e2)), cell_d (cell_a (cell_a k0)), cell_d (cell_a (cell_a k1)), cell_d (cell_a (cell_a k2))⟩)
                          ((go_at_call 21; refine (sameBlock_any _ _ _ _ _ _ _).mono ?_; rintro e w' ⟨rfl, rfl⟩; rw [EQ.out]))
                        have HR4 : Hid (DSt w4 _ pb sm ds cs T (LTo T (opAt s2 s3 z4 s5) k) k (.slice sa SC.length sp) SC (.slice ra R.length rp) R bb d tx co) := HR3.out.of_blocks ((((Below.refl _ wr).alloc (Nat.le_refl _) (.cells #[.string r.2.1, .int .i64 r.2.2.1, .string r.2.2.2] 41)).alloc (by simp) (.cells #[.string d, .int .i64 tx, .string co] 41)).drew)
                        clear e0 e1 e2 k0 k1 k2 ixb
                        go_wp2_with fail
                        go_roundw
                        case rel => exact ⟨j + 1, by omega, by go_num, by rw [ED2.out], R, ra, rp, rfl, by rw [ED2.out]; exact HD, by omega, HR4.out.st⟩
                        case measure => simp [intOf]; omega
                      · have EQ : Hid (decide (blkKey r.2.1 r.2.2.1 r.2.2.2 = (blkKey d tx co)) = false) := by simpa [Hid] using hq
                        have HN2 : Hid (∀ i, i < m2 + 1 → (recKeys R)[i]? ≠ some (blkKey d tx co)) := fun i hi e => by
                          by_cases e1 : i = m2
                          · rw [e1, hK] at e; exact hq (by simpa using e)
                          · exact HN.out i (by omega) e
                        clear hK hq HN
                        go_wp2_with fail
                        go_region_held3 (fun w' => w'.cell? ⟨gb, 3 * m2, none⟩ = some (.string r.2.1) ∧ w'.cell? ⟨gb, 3 * m2 + 1, none⟩ = some (.int .i64 r.2.2.1) ∧ w'.cell? ⟨gb, 3 * m2 + 1 + 1, none⟩ = some (.string r.2.2.2) ∧ w'.cell? ⟨bb, 0, none⟩ = some (.string d) ∧ w'.cell? ⟨bb, 1, none⟩ = some (.int .i64 tx) ∧ w'.cell? ⟨bb, 2, none⟩ = some (.string co)) (first | exact ⟨cell_d e0, cell_d e1, cell_d e2, cell_d k0, cell_d k1, cell_d k2⟩ | exact ⟨cell_d (cell_a (cell_a e0)), cell_d (cell_a (cell_a e1)), cell_d (cell_a (cell_a e2)), cell_d (cell_a (cell_a k0)), cell_d (cell_a (cell_a k1)), cell_d (cell_a (cell_a k2))⟩)
                          ((go_at_call 21; refine (sameBlock_any _ _ _ _ _ _ _).mono ?_; rintro e w' ⟨rfl, rfl⟩; rw [EQ.out]))
                        have HR4 : Hid (DSt w4 _ pb sm ds cs T (LTo T (opAt s2 s3 z4 s5) k) k (.slice sa SC.length sp) SC (.slice ra R.length rp) R bb d tx co) := HR3.out.of_blocks ((((Below.refl _ wr).alloc (Nat.le_refl _) (.cells #[.string r.2.1, .int .i64 r.2.2.1, .string r.2.2.2] 41)).alloc (by simp) (.cells #[.string d, .int .i64 tx, .string co] 41)).drew)
                        clear e0 e1 e2 k0 k1 k2 ixb
                        go_wp2_with fail
                        go_roundw
                        case rel => exact ⟨rfl, m2 + 1, by omega, by go_num, HN2, HR4⟩
                        case measure => simp [intOf]; omega
                    · have ED2 : Hid (dTo (opAt s2 s3 z4 s5) (j + 1) = dTo (opAt s2 s3 z4 s5) j ++ [(blkKey d tx co)]) := ED.out.trans (if_neg (fun h => by
                        rw [← HD.out] at h
                        obtain ⟨i, hi, e⟩ := List.mem_iff_getElem.1 ((kmem_iff _ _).1 h)
                        have hil : i < R.length := by simpa [recKeys] using hi
                        exact HN.out i (by omega) (by rw [List.getElem?_eq_getElem hi, e])))
                      have HK2 : Hid (recKeys (R ++ [(ByteArray.empty, (d, (tx, co)))]) = dTo (opAt s2 s3 z4 s5) (j + 1)) := by
                        unfold Hid; rw [ED2.out, ← HD.out]; simp [recKeys]
                      have EBL : Hid (blkAt (LTo T (opAt s2 s3 z4 s5) k) (dTo (opAt s2 s3 z4 s5) (j + 1)) = blkAt (LTo T (opAt s2 s3 z4 s5) k) (dTo (opAt s2 s3 z4 s5) j) + if cntL (LTo T (opAt s2 s3 z4 s5) k) (blkKey d tx co) ≠ 0 then 1 else 0) := by
                        unfold Hid; rw [ED2.out, blkAt_snoc]
                      obtain ⟨j0, hj0, hy0, hy1, hy2⟩ := info_parts info41
                      have hBs : w4.heap.size ≤ wr.heap.size := HR3.out.st.below.size
                      clear HN HQ9 HD ED
                      by_cases hz : cntL (LTo T (opAt s2 s3 z4 s5) k) (blkKey d tx co) = 0
                      · have EZ : Hid (cntL (LTo T (opAt s2 s3 z4 s5) k) (blkKey d tx co) = 0) := hz
                        have hz' : ¬ (0 : Int) < (cntL (LTo T (opAt s2 s3 z4 s5) k) (blkKey d tx co) : Int) := by omega
                        clear hz
                        go_wp2_with (at_builtin; refine wpList_append_lies _ rfl (.tmp 146) (.tmp 148) 37 rfl w4.heap.size 41 j0 z41 3 40 Try.underlying37 hj0 hy0 hy1 hy2 rfl (by decide) (.slice ra R.length rp) R.length (recCells R) rfl (by exact HR3.out.st.rowb.alloc _) ⟨wr.heap.size, 0, none⟩ 1 1 [.string d, .int .i64 tx, .string co] rfl rfl (by exact World.news_of_block (heap_alloc_new _ _)) (by simp [Value.oneCell']) (by decide) (by unfold maxLen; omega) (by omega) (by simp; omega) (wr.heap.size + 1) (by simp) ?_; intro ga pa w8 rb1 hgb atb ltb; have HA : Hid (CSt w4 w8 pb sm ds cs T (LTo T (opAt s2 s3 z4 s5) k) k (.slice sa SC.length sp) SC (.slice (some ⟨ga, 0, none⟩) (R.length + 1) pa) (R ++ [(ByteArray.empty, (d, (tx, co)))])) := HR3.out.st.app rb1 hgb; clear rb1 hgb atb ltb k0 k1 k2)
                        go_roundw
                        case rel => exact ⟨j + 1, by omega, by go_num, by rw [EBL.out, EZ.out]; rfl, R ++ [(ByteArray.empty, (d, (tx, co)))], some ⟨ga, 0, none⟩, pa, by simp, HK2, by simp; omega, by simpa using HA⟩
                        case measure => simp [intOf]; omega
                      · have EZ : Hid (cntL (LTo T (opAt s2 s3 z4 s5) k) (blkKey d tx co) ≠ 0) := hz
                        have hz' : (0 : Int) < (cntL (LTo T (opAt s2 s3 z4 s5) k) (blkKey d tx co) : Int) := by omega
                        clear hz
                        go_wp2_with (at_builtin; refine wpList_append_lies _ rfl (.tmp 146) (.tmp 148) 37 rfl w4.heap.size 41 j0 z41 3 40 Try.underlying37 hj0 hy0 hy1 hy2 rfl (by decide) (.slice ra R.length rp) R.length (recCells R) rfl (by exact HR3.out.st.rowb.alloc _) ⟨wr.heap.size, 0, none⟩ 1 1 [.string d, .int .i64 tx, .string co] rfl rfl (by exact World.news_of_block (heap_alloc_new _ _)) (by simp [Value.oneCell']) (by decide) (by unfold maxLen; omega) (by omega) (by simp; omega) (wr.heap.size + 1) (by simp) ?_; intro ga pa w8 rb1 hgb atb ltb; have HA : Hid (CSt w4 w8 pb sm ds cs T (LTo T (opAt s2 s3 z4 s5) k) k (.slice sa SC.length sp) SC (.slice (some ⟨ga, 0, none⟩) (R.length + 1) pa) (R ++ [(ByteArray.empty, (d, (tx, co)))])) := HR3.out.st.app rb1 hgb; clear rb1 hgb atb ltb k0 k1 k2)
                        go_roundw
                        case rel => exact ⟨j + 1, by omega, by go_num, by rw [EBL.out, if_pos EZ.out]; go_num, R ++ [(ByteArray.empty, (d, (tx, co)))], some ⟨ga, 0, none⟩, pa, by simp, HK2, by simp; omega, by simpa using HA⟩
                        case measure => simp [intOf]; omega
        · obtain rfl : j = k := by omega
          have EF : Hid (trTo T (opAt s2 s3 z4 s5) j = blkAt (LTo T (opAt s2 s3 z4 s5) j) (dTo (opAt s2 s3 z4 s5) j)) := tr_count T (opAt s2 s3 z4 s5) j
          go_wp2_with fail
          go_ret
          exact ⟨by rw [EF.out]; simp, HR.out.below⟩
end Go.Proofs.Qxb6000541a
