import Derived.Test.Qxb6000541aMir
import Derived.Test.Qxb6000541aIdLaw
import Derived.Deep.RegionHeld3
namespace Go.Proofs.Qxb6000541a
open Go.RowKit Go.Maps
attribute [local go_sem ↓] Go.wp_at_zero Go.wp_at_succ

theorem info21 : (Try.prog.info? 21).map (fun i => (i.zero, i.size, i.bytes)) = some (some (.int .i32 0), 1, 4) := by kernel_rfl

/-- What holds behind k rounds of the first loop: the mirror has numbered the first k; 'first' (block fb) holds their numbers. -/
structure St (w wr : World) (pb mi fb n k : Nat) (s1 s2 : List ByteArray) : Prop where
  mir : IdMir wr w.heap.size pb mi (keysTo s1 s2 k)
  first : ∃ cur, wr.heap[fb]? = some (.cells cur 21 (0, 0)) ∧ cur.size = n ∧ ∀ j, j < k → cur[j]? = some (.int .i32 (idAt s1 s2 j))
  low : w.heap.size ≤ fb
  below : Below w.heap.size w wr

theorem St.start {w w4 w5 : World} {pb mi n : Nat} {s1 s2 : List ByteArray} (h : IdMir w4 w.heap.size pb mi [] ∧ Kept w.heap.size w w4)
    (hown : w5.ownsRow w.heap.size 21 1 (.slice (some ⟨w4.heap.size, 0, none⟩) n n) n (madeCells (Value.int .i32 0).cells (n * 1)).toList) (hg : w4.grownBy w5 none) : St w w5 pb mi w4.heap.size n 0 s1 s2 := by
  obtain ⟨hM, hK⟩ := h
  have hs := hK.size
  refine ⟨hM.grown hg (fun k hk => by cases hk), ?_, hs, (hK.below (Nat.le_refl _)).grown hg hs (fun k hk => by cases hk)⟩
  rcases hown.2 with ⟨h1, _⟩ | ⟨g, cap, cur, h1, _, h2, _, _, h3, _⟩
  · cases h1
  · cases h1
    exact ⟨cur, h2, by omega, fun j hj => by omega⟩

/-- The round: the call of ZZID, then the store. -/
theorem St.step {w wr w1 : World} {pb mi fb n k : Nat} {s1 s2 : List ByteArray} (h : St w wr pb mi fb n k s1 s2) (hk : k < n) (hM : IdMir w1 w.heap.size pb mi (keysTo s1 s2 (k + 1))) (hK : Kept w.heap.size wr w1) :
    St w (w1.setCell ⟨fb, k, none⟩ (.int .i32 (idAt s1 s2 k))) pb mi fb n (k + 1) s1 s2 ∧ ∃ v, Free w1 ⟨fb, k, none⟩ v := by
  obtain ⟨hm, ⟨cur, hc, hsz, hcur⟩, hlow, hb⟩ := h
  have hnm : ¬ Mine wr w.heap.size fb := not_mine hc (by decide) (by decide) (by decide)
  have hc1 := (hK.block fb (lt_of_heap hc) hnm).trans hc
  have hnm1 : ¬ Mine w1 w.heap.size fb := not_mine hc1 (by decide) (by decide) (by decide)
  refine ⟨⟨hM.setCell hnm1 _, ⟨_, heap_setCell_same hc1 _, by simpa using hsz, fun j hj => ?_⟩, hlow, (hb.trans (hK.below hb.size)).setCell hlow _⟩, _, free_of_row hc1 (Array.getElem?_eq_getElem (by omega))⟩
  by_cases e : j = k
  · subst e; simp [hsz, hk]
  · rw [Array.getElem?_setIfInBounds_ne (Ne.symm e)]
    exact hcur j (by omega)

/-- Asked again: nothing new is numbered. -/
theorem St.again {w wr w1 : World} {pb mi fb n j : Nat} {s1 s2 : List ByteArray} (h : St w wr pb mi fb n n s1 s2) (hj : j < n) (hM : IdMir w1 w.heap.size pb mi (addKey (keysTo s1 s2 n) (pairAt s1 s2 j))) (hK : Kept w.heap.size wr w1) :
    St w w1 pb mi fb n n s1 s2 ∧ w1.cell? ⟨fb, j, none⟩ = some (.int .i32 (idAt s1 s2 j)) := by
  obtain ⟨hm, ⟨cur, hc, hsz, hcur⟩, hlow, hb⟩ := h
  have hnm : ¬ Mine wr w.heap.size fb := not_mine hc (by decide) (by decide) (by decide)
  have hc1 := (hK.block fb (lt_of_heap hc) hnm).trans hc
  rw [keysTo_again s1 s2 hj] at hM
  exact ⟨⟨hM, ⟨cur, hc1, hsz, hcur⟩, hlow, hb.trans (hK.below hb.size)⟩, (free_of_row hc1 (hcur j hj)).cell⟩

theorem cell_s {w : World} {a b : Addr} {v u : Value} (hne : a.block ≠ b.block) (h : w.cell? a = some v) : (w.setCell b u).cell? a = some v := by
  rw [World.cell?_of_block (w := w) (Below.heap_setCell w b u a.block hne)]; exact h

set_option maxHeartbeats 2000000 in
theorem stable_walk {w : World} {a1 a2 : Option Addr} {len1 cap1 b1 off1 len2 cap2 b2 off2 : Nat} {s1 s2 : List ByteArray} (H1 : IsStrs w a1 len1 cap1 b1 off1 s1) (H2 : IsStrs w a2 len2 cap2 b2 off2 s2) 
   (h1 : ¬ (4096 : Int) < len1) (h2 : ¬ (4096 : Int) < len2) :
    Calls Try.prog 4 #[.slice a1 len1 cap1, .slice a2 len2 cap2] w fun e w' => e = .returned (.bool true) ∧ Below w.heap.size w w' := by
  obtain ⟨i0, hi0, hz0, hz1, hz2⟩ := info_parts info21
  go_enter Try.func4, Try.ntmps4
  go_wp2_with fail
  refine (zzBytes15 H1 H2).mono ?_
  rintro e w' ⟨⟨t, rfl⟩, hw⟩
  subst hw
  cases t
  · go_wp2_with fail
    go_ret
    exact ⟨rfl, Below.refl _ _⟩
  go_wp2_with fail
  refine (strBytes_any H1).mono ?_
  rintro e w1 ⟨⟨t1, rfl, ht1, ht1'⟩, hw⟩
  subst hw
  go_wp2_with fail
  refine (strBytes_any H2).mono ?_
  rintro e w2 ⟨⟨t2, rfl, ht2, ht2'⟩, hw⟩
  subst hw
  by_cases ht : (1048576 : Int) < t1 + t2
  · go_wp2_with fail
    go_ret
    exact ⟨rfl, Below.refl _ _⟩
  go_wp2_with fail
  refine (minInt_nat _ _ _).mono ?_
  rintro e w3 ⟨rfl, hw⟩
  subst hw
  generalize hn : min len1 len2 = n
  go_wp2_with fail
  refine (newMirror_id w3 (Nat.le_refl _)).mono ?_
  rintro e w4 ⟨pb, mi, rfl, hM, hK⟩
  have HM : Hid (IdMir w4 w3.heap.size pb mi [] ∧ Kept w3.heap.size w3 w4) := ⟨hM, hK⟩
  clear hM hK
  go_wp2_with (at_make; refine wpList_make_full _ rfl _ _ 33 rfl w3.heap.size 21 i0 (.int .i32 0) 1 Try.underlying33 hi0 hz0 hz1 _ _ _ _ n rfl rfl rfl rfl (by rw [hz2]; omega) (by unfold maxLen; omega) (by exact HM.out.2.size) ?_; intro w5 hown hgrow)
  have HS : Hid (St w3 w5 pb mi w4.heap.size n 0 s1 s2) := St.start HM.out hown hgrow
  clear hown hgrow HM hi0 hz0 hz1 hz2 i0 ht1 ht1' ht2 ht2' ht
  generalize w4.heap.size = fb at *
  have hn1 : n ≤ len1 := by omega
  have hn2 : n ≤ len2 := by omega
  have hn4 : n ≤ 4096 := by omega
  clear hn h1 h2
  have HH : Hid (IsStrs w3 a1 len1 cap1 b1 off1 s1 ∧ IsStrs w3 a2 len2 cap2 b2 off2 s2) := ⟨H1, H2⟩
  clear H1 H2
  go_loopw [8] (fun i wr => ∃ k : Nat, k ≤ n ∧ i = .int .i64 k ∧ Hid (St w3 wr pb mi fb n k s1 s2)) (fun i _ => n - (intOf i).toNat)
  case atStart => exact ⟨0, Nat.zero_le _, rfl, HS⟩
  case round =>
    obtain ⟨k, hk, rfl, HR⟩ := hrel
    by_cases hlt : k < n
    · have hix1 := HH.out.1.ix k (by omega)
      have hix2 := HH.out.2.ix k (by omega)
      have c1 := (HH.out.1.below HR.out.below (Nat.le_refl _)).cell k (by omega)
      have c2 := (HH.out.2.below HR.out.below (Nat.le_refl _)).cell k (by omega)
      have z1 : (s1.getD k ByteArray.empty).size ≤ maxLen := HH.out.1.small k
      have z2 : (s2.getD k ByteArray.empty).size ≤ maxLen := HH.out.2.small k
      have l1 := HH.out.1.low (by omega)
      have l2 := HH.out.2.low (by omega)
      have l3 := HR.out.low
      have ekk : Hid (keysTo s1 s2 (k + 1) = addKey (keysTo s1 s2 k) (s1.getD k ByteArray.empty, s2.getD k ByteArray.empty) ∧ idAt s1 s2 k = idxIn (keysTo s1 s2 k) (s1.getD k ByteArray.empty, s2.getD k ByteArray.empty) ∧ (keysTo s1 s2 k).length ≤ 5000) := ⟨rfl, rfl, by have := keysTo_length s1 s2 k; omega⟩
      generalize s1.getD k ByteArray.empty = x1 at *
      generalize s2.getD k ByteArray.empty = x2 at *
      go_wp2_with fail
      go_region_held3 (fun w' => w'.cell? ⟨b1, off1 + k, none⟩ = some (.string x1) ∧ w'.cell? ⟨b2, off2 + k, none⟩ = some (.string x2)) (first | exact ⟨cell_d c1, cell_d c2⟩ | exact ⟨g1, g2⟩ | exact ⟨cell_s (by simp; omega) g1, cell_s (by simp; omega) g2⟩)
        ((go_at_call 12; refine (zzid_any (HR.out.mir.drew) ekk.out.2.2 z1 z2).mono ?_; rintro e w1 ⟨rfl, hM1, hK1⟩; have hS1 := HR.out.step hlt (ekk.out.1 ▸ hM1) ((Kept.refl _ _).drew.trans hK1); obtain ⟨hS2, v0, hf1, hf2⟩ := hS1; have g1 := (hK1.below HR.out.below.size).cell (p := ⟨b1, off1 + k, none⟩) l1 |>.trans (cell_d c1); have g2 := (hK1.below HR.out.below.size).cell (p := ⟨b2, off2 + k, none⟩) l2 |>.trans (cell_d c2); have HS2 : Hid (St w3 (w1.setCell ⟨fb, k, none⟩ (.int .i32 (idAt s1 s2 k))) pb mi fb n (k + 1) s1 s2) := hS2; clear hS2 hM1 hK1))
      clear g1 g2 c1 c2 hix1 hix2 hf1 hf2 z1 z2
      go_wp2
      go_roundw
      case rel => exact ⟨k + 1, by omega, by go_num, ekk.out.2.1 ▸ HS2⟩
      case measure => simp [intOf]; omega
    · obtain rfl : k = n := by omega
      go_wp2_with fail
      refine (zzcount_any HR.out.mir).mono ?_
      rintro e w6 ⟨rfl, hw6⟩
      subst hw6
      have hcl : (keysTo s1 s2 k).length ≤ 4096 := by have := keysTo_length s1 s2 k; omega
      go_wp2_with fail
      go_loopw [10] (fun i wr => ∃ m : Nat, m ≤ k ∧ i = .int .i64 (m - 1) ∧ Hid (St w3 wr pb mi fb k k s1 s2)) (fun i _ => (intOf i + 1).toNat)
      case atStart => exact ⟨k, Nat.le_refl _, rfl, HR⟩
      case round =>
        obtain ⟨m, hm, rfl, HR2⟩ := hrel
        by_cases hm0 : m = 0
        · subst hm0
          go_wp2_with fail
          refine (zzcount_any HR2.out.mir).mono ?_
          rintro e w6 ⟨rfl, hw6⟩
          subst hw6
          go_wp2_with fail
          go_ret
          exact ⟨by simp, HR2.out.below⟩
        · obtain ⟨j, rfl⟩ : ∃ j, m = j + 1 := ⟨m - 1, by omega⟩
          rw [show ((j + 1 : Nat) : Int) - 1 = (j : Int) from by omega]
          have hix1 := HH.out.1.ix j (by omega)
          have hix2 := HH.out.2.ix j (by omega)
          have c1 := (HH.out.1.below HR2.out.below (Nat.le_refl _)).cell j (by omega)
          have c2 := (HH.out.2.below HR2.out.below (Nat.le_refl _)).cell j (by omega)
          have z1 : (s1.getD j ByteArray.empty).size ≤ maxLen := HH.out.1.small j
          have z2 : (s2.getD j ByteArray.empty).size ≤ maxLen := HH.out.2.small j
          have l1 := HH.out.1.low (by omega)
          have l2 := HH.out.2.low (by omega)
          have l3 := HR2.out.low
          have epp : Hid (pairAt s1 s2 j = (s1.getD j ByteArray.empty, s2.getD j ByteArray.empty)) := rfl
          have hst := idAt_stable s1 s2 j k (by omega)
          have eid : Hid (idxIn (keysTo s1 s2 k) (pairAt s1 s2 j) = idAt s1 s2 j) := hst.1
          have hidl := hst.2
          clear hst
          generalize s1.getD j ByteArray.empty = x1 at *
          generalize s2.getD j ByteArray.empty = x2 at *
          go_wp2_with fail
          go_region_held3 (fun w' => w'.cell? ⟨b1, off1 + j, none⟩ = some (.string x1) ∧ w'.cell? ⟨b2, off2 + j, none⟩ = some (.string x2)) (first | exact ⟨cell_d c1, cell_d c2⟩ | exact ⟨g1, g2⟩)
            ((go_at_call 12; refine (zzid_any (HR2.out.mir.drew) (by omega) z1 z2).mono ?_; rintro e w1 ⟨rfl, hM1, hK1⟩; obtain ⟨hS2, hcf⟩ := HR2.out.again (by omega : j < k) (epp.out ▸ hM1) ((Kept.refl _ _).drew.trans hK1); have g1 := (hK1.below HR2.out.below.size).cell (p := ⟨b1, off1 + j, none⟩) l1 |>.trans (cell_d c1); have g2 := (hK1.below HR2.out.below.size).cell (p := ⟨b2, off2 + j, none⟩) l2 |>.trans (cell_d c2); have HS2 : Hid (St w3 w1 pb mi fb k k s1 s2) := hS2; rw [← epp.out, eid.out]; clear hS2 hM1 hK1))
          clear g1 g2 c1 c2 hix1 hix2 z1 z2
          go_wp2
          go_roundw
          case rel => exact ⟨j, by omega, rfl, HS2⟩
          case measure => simp [intOf]

set_option maxHeartbeats 1000000 in
theorem stable_big {w : World} {a1 a2 : Option Addr} {len1 cap1 b1 off1 len2 cap2 b2 off2 : Nat} {s1 s2 : List ByteArray} (H1 : IsStrs w a1 len1 cap1 b1 off1 s1) (H2 : IsStrs w a2 len2 cap2 b2 off2 s2)
   (h : (4096 : Int) < len1 ∨ ¬ (4096 : Int) < len1 ∧ (4096 : Int) < len2) :
    Calls Try.prog 4 #[.slice a1 len1 cap1, .slice a2 len2 cap2] w fun e w' => e = .returned (.bool true) ∧ Below w.heap.size w w' := by
  rcases h with h1 | ⟨h1, h2⟩
  all_goals
    go_enter Try.func4, Try.ntmps4
    go_wp2_with fail
    refine (zzBytes15 H1 H2).mono ?_
    rintro e w' ⟨⟨t, rfl⟩, hw⟩
    subst hw
    cases t
    · go_wp2_with fail
      go_ret
      exact ⟨rfl, Below.refl _ _⟩
    go_wp2_with fail
    go_ret
    exact ⟨rfl, Below.refl _ _⟩

theorem stable_any {w : World} {a1 a2 : Option Addr} {len1 cap1 b1 off1 len2 cap2 b2 off2 : Nat} {s1 s2 : List ByteArray} (H1 : IsStrs w a1 len1 cap1 b1 off1 s1) (H2 : IsStrs w a2 len2 cap2 b2 off2 s2) :
    Calls Try.prog 4 #[.slice a1 len1 cap1, .slice a2 len2 cap2] w fun e w' => e = .returned (.bool true) ∧ Below w.heap.size w w' := by
  by_cases h1 : (4096 : Int) < len1
  · exact stable_big H1 H2 (.inl h1)
  · by_cases h2 : (4096 : Int) < len2
    · exact stable_big H1 H2 (.inr ⟨h1, h2⟩)
    · exact stable_walk H1 H2 h1 h2
end Go.Proofs.Qxb6000541a
