import Derived.Test.Qxb6000541aKey
import Derived.Test.Qxb6000541aOpen
import Derived.Deep.RegionHeld3
namespace Go.Proofs.Qxb6000541a
open Go.RowKit Go.Maps
attribute [local go_sem ↓] Go.wp_at_zero Go.wp_at_succ

theorem info9 : (Try.prog.info? 9).map (fun i => (i.zero, i.size, i.bytes)) = some (some (.string ByteArray.empty), 1, 16) := by kernel_rfl

/-- A slice of strings that the law itself has made. -/
theorem isStrs_row {w : World} {B : Nat} {a : Option Addr} {n cap : Nat} {ss : List ByteArray} (h : w.ownsRow B 9 1 (.slice a n cap) n (ss.map .string)) (hs : ∀ s ∈ ss, s.size ≤ maxLen) : ∃ b, IsStrs w a n cap b 0 ss := by
  have hl := h.1
  simp at hl
  have hsm : ∀ i, (ss.getD i ByteArray.empty).size ≤ maxLen := fun i => by
    rw [List.getD_eq_getElem?_getD]
    cases hi : ss[i]? with
    | none => simp
    | some s => exact hs s (List.mem_of_getElem? hi)
  rcases h.2 with ⟨hv, hn⟩ | ⟨g, cap', cur, hv, hg, hh, hcap, hmax, hsz, hx⟩
  · subst hn
    exact ⟨0, hl, Nat.zero_le _, hsm, fun i hi => by omega, fun i hi => by omega, fun hi => by omega⟩
  · cases hv
    refine ⟨g, hl, by omega, hsm, fun i hi w' => by simpa using index22 g 0 n cap i hi w', fun i hi => ?_, fun _ => lt_of_heap hh⟩
    have : (ss.map Value.string)[i]? = some (.string (ss.getD i ByteArray.empty)) := by
      rw [List.getElem?_map, List.getD_eq_getElem?_getD, List.getElem?_eq_getElem (by omega)]; rfl
    rw [← hx, List.getElem?_take, if_pos (by omega)] at this
    exact (free_of_row hh (by simpa using this)).cell

theorem eqB_true {a b : ByteArray} (h : a = b) : (a.toList == b.toList) = true := by rw [h]; simp
theorem eqB_false {a b : ByteArray} (h : a ≠ b) : (a.toList == b.toList) = false := by
  rw [ByteArray.toList_eq, ByteArray.toList_eq, beq_eq_false_iff_ne]
  intro e
  apply h
  obtain ⟨⟨l⟩⟩ := a
  obtain ⟨⟨m⟩⟩ := b
  simp at e
  rw [e]

/-- What holds while the law numbers: the mirror has numbered km; the law's own two lists hold kr. -/
structure NSt (w wr : World) (pb mi : Nat) (ms mc : Value) (km kr : List (ByteArray × ByteArray)) : Prop where
  mir : IdMir wr w.heap.size pb mi km
  rs : wr.ownsRow w.heap.size 9 1 ms kr.length ((kr.map Prod.fst).map .string)
  rc : wr.ownsRow w.heap.size 9 1 mc kr.length ((kr.map Prod.snd).map .string)
  apart : ∀ b, ms.ownBlock = some b → mc.ownBlock ≠ some b
  small : ∀ p ∈ kr, p.1.size ≤ maxLen ∧ p.2.size ≤ maxLen
  below : Below w.heap.size w wr

theorem NSt.of_blocks {w wr w' : World} {pb mi : Nat} {ms mc : Value} {km kr : List (ByteArray × ByteArray)} (h : NSt w wr pb mi ms mc km kr) (hb : ∀ k, k < wr.heap.size → w'.heap[k]? = wr.heap[k]?) (hbl : Below w.heap.size wr w') : NSt w w' pb mi ms mc km kr :=
  ⟨h.mir.of_blocks (fun k hk _ => hb k hk), ownsRow_of_block h.rs (fun k hk => hb k (lt_of_heap (ownsRow_block h.rs hk).2.choose_spec)), ownsRow_of_block h.rc (fun k hk => hb k (lt_of_heap (ownsRow_block h.rc hk).2.choose_spec)), h.apart, h.small, h.below.trans hbl⟩
theorem NSt.drewN {w wr : World} {pb mi : Nat} {ms mc : Value} {km kr : List (ByteArray × ByteArray)} (h : NSt w wr pb mi ms mc km kr) (n : Nat) : NSt w (wr.drewN n) pb mi ms mc km kr :=
  h.of_blocks (fun _ _ => rfl) ⟨rfl, rfl, rfl, Nat.le_refl _, fun _ _ => rfl⟩
theorem NSt.alloc {w wr : World} {pb mi : Nat} {ms mc : Value} {km kr : List (ByteArray × ByteArray)} (h : NSt w wr pb mi ms mc km kr) (o : Obj) : NSt w (wr.alloc o) pb mi ms mc km kr :=
  h.of_blocks (fun k hk => Below.heap_alloc wr o k hk) ((Below.refl _ _).alloc h.below.size o)

theorem NSt.start {w w4 : World} {pb mi : Nat} (h : IdMir w4 w.heap.size pb mi [] ∧ Kept w.heap.size w w4) : NSt w w4 pb mi (.slice none 0 0) (.slice none 0 0) [] [] :=
  ⟨h.1, World.ownsRow_nil _ _ _ _, World.ownsRow_nil _ _ _ _, fun b hb => (by simp [Value.ownBlock] at hb), fun p hp => (by simp at hp), h.2.below (Nat.le_refl _)⟩

/-- Behind the call of ZZID. -/
theorem NSt.asked {w wr w1 : World} {pb mi : Nat} {ms mc : Value} {km km' kr : List (ByteArray × ByteArray)} (h : NSt w wr pb mi ms mc km kr) (hM : IdMir w1 w.heap.size pb mi km') (hK : Kept w.heap.size wr w1) : NSt w w1 pb mi ms mc km' kr :=
  ⟨hM, hK.row h.rs (by decide) (by decide) (by decide), hK.row h.rc (by decide) (by decide) (by decide), h.apart, h.small, h.below.trans (hK.below h.below.size)⟩

/-- Behind the first append the second list is as it was, and so is whatever came in. -/
theorem NSt.app1 {w wr w5 : World} {pb mi : Nat} {ms mc : Value} {km kr : List (ByteArray × ByteArray)} (h : NSt w wr pb mi ms mc km kr) {o1 : Obj} (hg1 : (wr.alloc o1).grownBy w5 ms.ownBlock) :
    w5.ownsRow w.heap.size 9 1 mc kr.length ((kr.map Prod.snd).map .string) ∧ Below w.heap.size wr w5 ∧ w.heap.size ≤ w5.heap.size := by
  have b5 : Below w.heap.size wr w5 := ((Below.refl _ wr).alloc h.below.size o1).grown hg1 (by have := h.below.size; simp; omega) (fun k hk => (ownsRow_block h.rs hk).1)
  refine ⟨ownsRow_of_block h.rc (fun b hb => ?_), b5, Nat.le_trans h.below.size b5.size⟩
  obtain ⟨_, cur, hc⟩ := ownsRow_block h.rc hb
  rw [hg1.block b (lt_of_heap (heap_a hc)) (fun e => h.apart b e.symm hb), heap_a hc, hc]

/-- Behind the two appends. -/
theorem NSt.apps {w wr w5 w6 : World} {pb mi : Nat} {ms mc : Value} {km kr : List (ByteArray × ByteArray)} (h : NSt w wr pb mi ms mc km kr) {x1 x2 : ByteArray} (hx1 : x1.size ≤ maxLen) (hx2 : x2.size ≤ maxLen) {o1 o2 : Obj} {g1 p1 g2 p2 : Nat}
    (r1 : w5.ownsRow w.heap.size 9 1 (.slice (some ⟨g1, 0, none⟩) (kr.length + 1) p1) (kr.length + 1) ((kr.map Prod.fst).map .string ++ [.string x1])) (hg1 : (wr.alloc o1).grownBy w5 ms.ownBlock) (at1 : ms.ownBlock = some g1 ∨ g1 = wr.heap.size + 1)
    (r2 : w6.ownsRow w.heap.size 9 1 (.slice (some ⟨g2, 0, none⟩) (kr.length + 1) p2) (kr.length + 1) ((kr.map Prod.snd).map .string ++ [.string x2])) (hg2 : (w5.alloc o2).grownBy w6 mc.ownBlock) (at2 : mc.ownBlock = some g2 ∨ g2 = w5.heap.size + 1) :
    NSt w w6 pb mi (.slice (some ⟨g1, 0, none⟩) (kr.length + 1) p1) (.slice (some ⟨g2, 0, none⟩) (kr.length + 1) p2) km (kr ++ [(x1, x2)]) := by
  have hs5 : wr.heap.size + 1 ≤ w5.heap.size := by have := hg1.size; simp at this; omega
  have hlt1 : g1 < w5.heap.size := by
    obtain ⟨_, cur, hc⟩ := ownsRow_block r1 (k := g1) rfl
    exact lt_of_heap hc
  have hmcg : ∀ b, mc.ownBlock = some b → b ≠ g1 := fun b hb e => by
    rcases at1 with h1 | h1
    · exact h.apart g1 h1 (e ▸ hb)
    · have := lt_of_heap (ownsRow_block h.rc hb).2.choose_spec
      omega
  have hm5 : IdMir w5 w.heap.size pb mi km := (h.mir.alloc o1).grown hg1 (fun k hk => by
    obtain ⟨_, cur, hc⟩ := ownsRow_block h.rs hk
    exact not_mine (heap_a hc) (by decide) (by decide) (by decide))
  have hrc5 : w5.ownsRow w.heap.size 9 1 mc kr.length ((kr.map Prod.snd).map .string) := ownsRow_of_block h.rc (fun b hb => by
    obtain ⟨_, cur, hc⟩ := ownsRow_block h.rc hb
    rw [hg1.block b (lt_of_heap (heap_a hc)) (fun e => h.apart b e.symm hb), heap_a hc, hc])
  have hm6 : IdMir w6 w.heap.size pb mi km := (hm5.alloc o2).grown hg2 (fun k hk => by
    obtain ⟨_, cur, hc⟩ := ownsRow_block hrc5 hk
    exact not_mine (heap_a hc) (by decide) (by decide) (by decide))
  have hg1ne : mc.ownBlock ≠ some g1 := fun e => hmcg g1 e rfl
  have r1' : w6.ownsRow w.heap.size 9 1 (.slice (some ⟨g1, 0, none⟩) (kr.length + 1) p1) (kr.length + 1) ((kr.map Prod.fst).map .string ++ [.string x1]) := ownsRow_of_block r1 (fun b hb => by
    obtain ⟨_, cur, hc⟩ := ownsRow_block r1 hb
    have hbg : b = g1 := by simpa [Value.ownBlock] using hb.symm
    subst hbg
    rw [hg2.block b (lt_of_heap (heap_a hc)) (Ne.symm hg1ne), heap_a hc, hc])
  refine ⟨hm6, by simpa using r1', by simpa using r2, fun b hb hc => ?_, fun p hp => ?_, ?_⟩
  · simp [Value.ownBlock] at hb hc
    subst hb
    rcases at2 with h2 | h2
    · exact hg1ne (h2.trans (by rw [hc]))
    · omega
  · simp at hp
    rcases hp with hp | rfl
    · exact h.small p hp
    · exact ⟨hx1, hx2⟩
  · have b5 : Below w.heap.size w w5 := (h.below.alloc h.below.size o1).grown hg1 (by have := h.below.size; simp; omega) (fun k hk => (ownsRow_block h.rs hk).1)
    exact (b5.alloc b5.size o2).grown hg2 (by have := b5.size; simp; omega) (fun k hk => (ownsRow_block hrc5 hk).1)

set_option maxHeartbeats 2000000 in
set_option maxRecDepth 100000 in
theorem numbers_walk {w : World} {a1 a2 : Option Addr} {len1 cap1 b1 off1 len2 cap2 b2 off2 : Nat} {s1 s2 : List ByteArray} (H1 : IsStrs w a1 len1 cap1 b1 off1 s1) (H2 : IsStrs w a2 len2 cap2 b2 off2 s2)
   (h1 : ¬ (4096 : Int) < len1) (h2 : ¬ (4096 : Int) < len2) :
    Calls Try.prog 3 #[.slice a1 len1 cap1, .slice a2 len2 cap2] w fun e w' => e = .returned (.bool true) ∧ Below w.heap.size w w' := by
  go_enter Try.func3, Try.ntmps3
  go_wp2_with fail
  refine (zzBytes8 H1 H2).mono ?_
  rintro e w' ⟨⟨t, rfl⟩, hw⟩
  subst hw
  cases t
  · go_wp2_with fail
    go_ret
    exact ⟨rfl, Below.refl _ _⟩
  go_wp2_with fail
  refine (strBytes_any H1).mono ?_
  rintro e w1 ⟨⟨t1, rfl, ht1, ht1'⟩, hw⟩
  subst hw
  go_wp2_with fail
  refine (strBytes_any H2).mono ?_
  rintro e w2 ⟨⟨t2, rfl, ht2, ht2'⟩, hw⟩
  subst hw
  by_cases ht : (1048576 : Int) < t1 + t2
  · go_wp2_with fail
    go_ret
    exact ⟨rfl, Below.refl _ _⟩
  go_wp2_with fail
  refine (minInt_nat _ _ _).mono ?_
  rintro e w3 ⟨rfl, hw⟩
  subst hw
  generalize hn : min len1 len2 = n
  go_wp2_with fail
  refine (newMirror_id w3 (Nat.le_refl _)).mono ?_
  rintro e w4 ⟨pb, mi, rfl, hM, hK⟩
  have HS : Hid (NSt w3 w4 pb mi (.slice none 0 0) (.slice none 0 0) (keysTo s1 s2 0) (keysTo s1 s2 0)) := NSt.start ⟨hM, hK⟩
  clear hM hK ht1 ht1' ht2 ht2' ht
  go_wp2_with fail
  have hn1 : n ≤ len1 := by omega
  have hn2 : n ≤ len2 := by omega
  have hn4 : n ≤ 4096 := by omega
  clear hn h1 h2
  have HH : Hid (IsStrs w3 a1 len1 cap1 b1 off1 s1 ∧ IsStrs w3 a2 len2 cap2 b2 off2 s2) := ⟨H1, H2⟩
  clear H1 H2
  go_loopw [7, 8, 9] (fun ms mc i wr => ∃ k : Nat, k ≤ n ∧ i = .int .i64 k ∧ ∃ ma mp ca cp, ms = .slice ma (keysTo s1 s2 k).length mp ∧ mc = .slice ca (keysTo s1 s2 k).length cp ∧ Hid (NSt w3 wr pb mi (.slice ma (keysTo s1 s2 k).length mp) (.slice ca (keysTo s1 s2 k).length cp) (keysTo s1 s2 k) (keysTo s1 s2 k))) (fun _ _ i _ => n - (intOf i).toNat)
  case atStart => exact ⟨0, Nat.zero_le _, rfl, none, 0, none, 0, rfl, rfl, HS⟩
  case round =>
    obtain ⟨k, hk, rfl, ma, mp, ca, cp, rfl, rfl, HR⟩ := hrel
    by_cases hlt : k < n
    · have hkl : (keysTo s1 s2 k).length ≤ 4096 := by have := keysTo_length s1 s2 k; omega
      have hdl := idxIn_le (pairAt s1 s2 k) (keysTo s1 s2 k)
      obtain ⟨wo, hwo⟩ : ∃ wo : World, wo = wr := ⟨_, rfl⟩
      subst hwo
      go_wp2_with fail
      go_loopw [10, 11] (fun want j w2 => want = .int .i64 (-1) ∧ ∃ m : Nat, m ≤ idxIn (keysTo s1 s2 k) (pairAt s1 s2 k) ∧ j = .int .i64 m ∧ Hid (NSt w3 w2 pb mi (.slice ma (keysTo s1 s2 k).length mp) (.slice ca (keysTo s1 s2 k).length cp) (keysTo s1 s2 k) (keysTo s1 s2 k))) (fun _ j _ => (keysTo s1 s2 k).length - (intOf j).toNat)
      case atStart => exact ⟨rfl, 0, Nat.zero_le _, rfl, HR⟩
      case round =>
        obtain ⟨rfl, m, hm, rfl, HR2⟩ := hrel
        have hix1 := HH.out.1.ix k (by omega)
        have hix2 := HH.out.2.ix k (by omega)
        have c1 := (HH.out.1.below HR2.out.below (Nat.le_refl _)).cell k (by omega)
        have c2 := (HH.out.2.below HR2.out.below (Nat.le_refl _)).cell k (by omega)
        have z1 : (s1.getD k ByteArray.empty).size ≤ maxLen := HH.out.1.small k
        have z2 : (s2.getD k ByteArray.empty).size ≤ maxLen := HH.out.2.small k
        have l1 := HH.out.1.low (by omega)
        have l2 := HH.out.2.low (by omega)
        have ekk : Hid (keysTo s1 s2 (k + 1) = addKey (keysTo s1 s2 k) (s1.getD k ByteArray.empty, s2.getD k ByteArray.empty) ∧ pairAt s1 s2 k = (s1.getD k ByteArray.empty, s2.getD k ByteArray.empty)) := ⟨rfl, rfl⟩
        generalize s1.getD k ByteArray.empty = x1 at *
        generalize s2.getD k ByteArray.empty = x2 at *
        by_cases hml : m < (keysTo s1 s2 k).length
        · obtain ⟨q, hq⟩ : ∃ q, (keysTo s1 s2 k)[m]? = some q := ⟨_, List.getElem?_eq_getElem hml⟩
          obtain ⟨ba, hA⟩ := isStrs_row HR2.out.rs (fun s hs => by simp at hs; obtain ⟨c, hc⟩ := hs; exact (HR2.out.small _ hc).1)
          obtain ⟨bc, hC⟩ := isStrs_row HR2.out.rc (fun s hs => by simp at hs; obtain ⟨c, hc⟩ := hs; exact (HR2.out.small _ hc).2)
          have i1 := hA.ix m hml
          have i2 := hC.ix m hml
          have d1 := hA.cell m hml
          have d2 := hC.cell m hml
          rw [List.getD_eq_getElem?_getD, List.getElem?_map, hq] at d1 d2
          simp only [Option.map_some, Option.getD_some, Nat.zero_add] at d1 d2 i1 i2
          clear hA hC
          by_cases hmi : m = idxIn (keysTo s1 s2 k) (pairAt s1 s2 k)
          · have hqp : q = (x1, x2) := by
              have := idxIn_get (pairAt s1 s2 k) (keysTo s1 s2 k) (hmi ▸ hml)
              rw [← hmi, hq, ekk.out.2] at this
              simpa using this
            have t1 : (q.1.toList == x1.toList) = true := eqB_true (by rw [hqp])
            have t2 : (q.2.toList == x2.toList) = true := eqB_true (by rw [hqp])
            have HQ : Hid (m = idxIn (keysTo s1 s2 k) (pairAt s1 s2 k)) := hmi
            clear hq hqp hmi
            go_wp2_with fail
            go_quiet (fail)
            clear i1 i2 d1 d2 t1 t2
            go_wp2_with fail
            have HW : Hid (NSt w3 (wr.drewN nq) pb mi (.slice ma (keysTo s1 s2 k).length mp) (.slice ca (keysTo s1 s2 k).length cp) (keysTo s1 s2 k) (keysTo s1 s2 k)) := HR2.out.drewN nq
            replace c1 : (wr.drewN nq).cell? _ = _ := c1
            replace c2 : (wr.drewN nq).cell? _ = _ := c2
            have eW : Hid (idxIn (keysTo s1 s2 k) (x1, x2) = m ∧ addKey (keysTo s1 s2 k) (x1, x2) = keysTo s1 s2 k ∧ keysTo s1 s2 (k + 1) = keysTo s1 s2 k) := by
              have e1 : idxIn (keysTo s1 s2 k) (x1, x2) = m := by rw [← ekk.out.2]; exact HQ.out.symm
              have e2 : addKey (keysTo s1 s2 k) (x1, x2) = keysTo s1 s2 k := if_pos (by omega)
              exact ⟨e1, e2, ekk.out.1.trans e2⟩
            clear HR2 HR HS HQ ekk
            generalize wr.drewN nq = W at *
            go_region_held3 (fun w' => w'.cell? ⟨b1, off1 + k, none⟩ = some (.string x1) ∧ w'.cell? ⟨b2, off2 + k, none⟩ = some (.string x2)) (first | exact ⟨cell_d c1, cell_d c2⟩ | exact ⟨g1, g2⟩)
              ((go_at_call 12; refine (zzid_any (HW.out.mir.drew) (by omega) z1 z2).mono ?_; rintro e w1 ⟨rfl, hM1, hK1⟩; have g1 := (hK1.below HW.out.below.size).cell (p := ⟨b1, off1 + k, none⟩) l1 |>.trans (cell_d c1); have g2 := (hK1.below HW.out.below.size).cell (p := ⟨b2, off2 + k, none⟩) l2 |>.trans (cell_d c2); have HS2 : Hid (NSt w3 w1 pb mi (.slice ma (keysTo s1 s2 k).length mp) (.slice ca (keysTo s1 s2 k).length cp) (addKey (keysTo s1 s2 k) (x1, x2)) (keysTo s1 s2 k)) := HW.out.asked hM1 ((Kept.refl _ _).drew.trans hK1); rw [eW.out.1]; clear hM1 hK1))
            clear g1 g2 c1 c2 hix1 hix2 z1 z2 HW
            go_wp2
            go_roundw
            case rel =>
              refine ⟨k + 1, by omega, by go_num, ma, mp, ca, cp, by rw [eW.out.2.2], by rw [eW.out.2.2], ?_⟩
              rw [eW.out.2.2]
              rw [eW.out.2.1] at HS2
              exact HS2
            case measure => simp [intOf]; omega
          · have hne : q ≠ (x1, x2) := fun e => by
              have := idxIn_min (pairAt s1 s2 k) (keysTo s1 s2 k) m (by rw [hq, e, ekk.out.2])
              omega
            have HR3 : ∀ nq, Hid (NSt w3 (wr.drewN nq) pb mi (.slice ma (keysTo s1 s2 k).length mp) (.slice ca (keysTo s1 s2 k).length cp) (keysTo s1 s2 k) (keysTo s1 s2 k)) := fun nq => HR2.out.drewN nq
            clear hq
            by_cases hq1 : q.1 = x1
            · have t1 : (q.1.toList == x1.toList) = true := eqB_true hq1
              have t2 : (q.2.toList == x2.toList) = false := eqB_false (fun e => hne (by rw [← hq1, ← e]))
              clear hq1 hne
              go_wp2_with fail
              go_quiet (fail)
              clear i1 i2 d1 d2 t1 t2 hix1 hix2 c1 c2
              go_wp2
              go_roundw
              case rel => exact ⟨rfl, m + 1, by omega, by go_num, HR3 nq⟩
              case measure => simp [intOf]; omega
            · have t1 : (q.1.toList == x1.toList) = false := eqB_false hq1
              clear hq1 hne
              go_wp2_with fail
              go_quiet (fail)
              clear i1 i2 d1 d2 t1 hix1 hix2 c1 c2
              go_wp2
              go_roundw
              case rel => exact ⟨rfl, m + 1, by omega, by go_num, HR3 nq⟩
              case measure => simp [intOf]; omega
        · have hmL : Hid (idxIn (keysTo s1 s2 k) (x1, x2) = (keysTo s1 s2 k).length ∧ addKey (keysTo s1 s2 k) (x1, x2) = keysTo s1 s2 k ++ [(x1, x2)] ∧ keysTo s1 s2 (k + 1) = keysTo s1 s2 k ++ [(x1, x2)]) := by
            have e1 : idxIn (keysTo s1 s2 k) (x1, x2) = (keysTo s1 s2 k).length := by rw [← ekk.out.2]; omega
            have e2 : addKey (keysTo s1 s2 k) (x1, x2) = keysTo s1 s2 k ++ [(x1, x2)] := if_neg (by omega)
            exact ⟨e1, e2, ekk.out.1.trans e2⟩
          obtain ⟨i0, hi0, hz0, hz1, hz2⟩ := info_parts info9
          have hBs : w3.heap.size ≤ wr.heap.size := HR2.out.below.size
          clear HR HS ekk
          go_wp2_with (first
            | (at_builtin; refine wpList_append_lies _ rfl (.tmp 75) (.tmp 80) 22 rfl w3.heap.size 9 i0 (.string ByteArray.empty) 1 16 Try.underlying22 hi0 hz0 hz1 hz2 rfl (by decide) (.slice ma (keysTo s1 s2 k).length mp) (keysTo s1 s2 k).length (((keysTo s1 s2 k).map Prod.fst).map .string) rfl (by exact HR2.out.rs.alloc _) ⟨wr.heap.size, 0, none⟩ 1 1 [.string x1] rfl rfl (by exact World.news_of_block (heap_alloc_new _ _)) (by simp [Value.oneCell']) (by decide) (by unfold maxLen; omega) (by omega) (by simp; omega) (wr.heap.size + 1) (by simp) ?_; intro ga pa w5 ra hga ata lta; obtain ⟨rc5, bl5, sz5⟩ := HR2.out.app1 hga; have f1 := (bl5.cell (p := ⟨b1, off1 + k, none⟩) l1).trans c1; have f2 := (bl5.cell (p := ⟨b2, off2 + k, none⟩) l2).trans c2; have HA : Hid (_ ∧ _ ∧ _) := And.intro ra (And.intro hga ata); have HB : Hid (_ ∧ _) := And.intro rc5 sz5; clear ra hga ata rc5 sz5)
            | (at_builtin; refine wpList_append_lies _ rfl (.tmp 82) (.tmp 87) 22 rfl w3.heap.size 9 i0 (.string ByteArray.empty) 1 16 Try.underlying22 hi0 hz0 hz1 hz2 rfl (by decide) (.slice ca (keysTo s1 s2 k).length cp) (keysTo s1 s2 k).length (((keysTo s1 s2 k).map Prod.snd).map .string) rfl (by exact HB.out.1.alloc _) ⟨w5.heap.size, 0, none⟩ 1 1 [.string x2] rfl rfl (by exact World.news_of_block (heap_alloc_new _ _)) (by simp [Value.oneCell']) (by decide) (by unfold maxLen; omega) (by omega) (by have := HB.out.2; simp; omega) (w5.heap.size + 1) (by simp) ?_; intro gb pc w6 rb hgb atb ltb))
          have HW : Hid (NSt w3 w6 pb mi (.slice (some ⟨ga, 0, none⟩) ((keysTo s1 s2 k).length + 1) pa) (.slice (some ⟨gb, 0, none⟩) ((keysTo s1 s2 k).length + 1) pc) (keysTo s1 s2 k) (keysTo s1 s2 k ++ [(x1, x2)])) := HR2.out.apps z1 z2 HA.out.1 HA.out.2.1 HA.out.2.2 rb hgb atb
          have n1 : w6.cell? ⟨b1, off1 + k, none⟩ = some (.string x1) := ((HW.out.below.cell (p := ⟨b1, off1 + k, none⟩) l1).trans (HR2.out.below.cell (p := ⟨b1, off1 + k, none⟩) l1).symm).trans c1
          have n2 : w6.cell? ⟨b2, off2 + k, none⟩ = some (.string x2) := ((HW.out.below.cell (p := ⟨b2, off2 + k, none⟩) l2).trans (HR2.out.below.cell (p := ⟨b2, off2 + k, none⟩) l2).symm).trans c2
          clear c1 c2 f1 f2 HA HB rb hgb atb ltb lta bl5 HR2 hi0 hz0 hz1 hz2 i0 hBs
          have c1 := n1
          have c2 := n2
          clear n1 n2
          go_region_held3 (fun w' => w'.cell? ⟨b1, off1 + k, none⟩ = some (.string x1) ∧ w'.cell? ⟨b2, off2 + k, none⟩ = some (.string x2)) (first | exact ⟨cell_d c1, cell_d c2⟩ | exact ⟨g1, g2⟩)
            ((go_at_call 12; refine (zzid_any (HW.out.mir.drew) (by omega) z1 z2).mono ?_; rintro e w1 ⟨rfl, hM1, hK1⟩; have g1 := (hK1.below HW.out.below.size).cell (p := ⟨b1, off1 + k, none⟩) l1 |>.trans (cell_d c1); have g2 := (hK1.below HW.out.below.size).cell (p := ⟨b2, off2 + k, none⟩) l2 |>.trans (cell_d c2); have HS2 : Hid (NSt w3 w1 pb mi (.slice (some ⟨ga, 0, none⟩) ((keysTo s1 s2 k).length + 1) pa) (.slice (some ⟨gb, 0, none⟩) ((keysTo s1 s2 k).length + 1) pc) (addKey (keysTo s1 s2 k) (x1, x2)) (keysTo s1 s2 k ++ [(x1, x2)])) := HW.out.asked hM1 ((Kept.refl _ _).drew.trans hK1); rw [hmL.out.1]; clear hM1 hK1))
          clear g1 g2 c1 c2 hix1 hix2 z1 z2 HW
          go_wp2
          go_roundw
          case rel =>
            refine ⟨k + 1, by omega, by go_num, some ⟨ga, 0, none⟩, pa, some ⟨gb, 0, none⟩, pc, by rw [hmL.out.2.2]; simp, by rw [hmL.out.2.2]; simp, ?_⟩
            rw [hmL.out.2.2]
            rw [hmL.out.2.1] at HS2
            simpa using HS2
          case measure => simp [intOf]; omega
    · obtain rfl : k = n := by omega
      have hkl : (keysTo s1 s2 k).length ≤ 4096 := by have := keysTo_length s1 s2 k; omega
      clear HS HH
      go_wp2_with fail
      refine (zzcount_any HR.out.mir).mono ?_
      rintro e w6 ⟨rfl, hw6⟩
      subst hw6
      generalize keysTo s1 s2 k = ks at *
      go_wp2_with fail
      go_loopw [13] (fun j w2 => ∃ m : Nat, m ≤ ks.length ∧ j = .int .i64 m ∧ Hid (NSt w3 w2 pb mi (.slice ma ks.length mp) (.slice ca ks.length cp) ks ks)) (fun j _ => ks.length - (intOf j).toNat)
      case atStart => exact ⟨0, Nat.zero_le _, rfl, HR⟩
      case round =>
        obtain ⟨m, hm, rfl, HR2⟩ := hrel
        by_cases hml : m < ks.length
        · obtain ⟨⟨y1, y2⟩, hq⟩ : ∃ q, ks[m]? = some q := ⟨_, List.getElem?_eq_getElem hml⟩
          obtain ⟨ba, hA⟩ := isStrs_row HR2.out.rs (fun s hs => by simp at hs; obtain ⟨c, hc⟩ := hs; exact (HR2.out.small _ hc).1)
          obtain ⟨bc, hC⟩ := isStrs_row HR2.out.rc (fun s hs => by simp at hs; obtain ⟨c, hc⟩ := hs; exact (HR2.out.small _ hc).2)
          have i1 := hA.ix m hml
          have i2 := hC.ix m hml
          have d1 := hA.cell m hml
          have d2 := hC.cell m hml
          rw [List.getD_eq_getElem?_getD, List.getElem?_map, hq] at d1 d2
          simp only [Option.map_some, Option.getD_some, Nat.zero_add] at d1 d2 i1 i2
          have d1' : ∀ o o', ((wr.alloc o).alloc o').cell? ⟨ba, m, none⟩ = some (.string y1) := fun _ _ => cell_a (cell_a d1)
          have d2' : ∀ o o', ((wr.alloc o).alloc o').cell? ⟨bc, m, none⟩ = some (.string y2) := fun _ _ => cell_a (cell_a d2)
          clear hA hC d1 d2
          go_wp2_with fail
          refine (zzkey_any HR2.out.mir hq).mono ?_
          rintro e w7 ⟨rfl, o, hw7⟩
          subst hw7
          have HR3 : ∀ nq o', Hid (NSt w3 (((wr.alloc o).alloc o').drewN nq) pb mi (.slice ma ks.length mp) (.slice ca ks.length cp) ks ks) := fun nq o' => ((HR2.out.alloc o).alloc o').drewN nq
          clear hq
          go_wp2_with fail
          go_quiet (fail)
          clear i1 i2 d1' d2'
          go_wp2
          go_roundw
          case rel => exact ⟨m + 1, by omega, by go_num, HR3 nq _⟩
          case measure => simp [intOf]; omega
        · go_wp2
          go_ret
          exact ⟨rfl, HR2.out.below⟩

set_option maxHeartbeats 1000000 in
theorem numbers_big {w : World} {a1 a2 : Option Addr} {len1 cap1 b1 off1 len2 cap2 b2 off2 : Nat} {s1 s2 : List ByteArray} (H1 : IsStrs w a1 len1 cap1 b1 off1 s1) (H2 : IsStrs w a2 len2 cap2 b2 off2 s2)
   (h : (4096 : Int) < len1 ∨ ¬ (4096 : Int) < len1 ∧ (4096 : Int) < len2) :
    Calls Try.prog 3 #[.slice a1 len1 cap1, .slice a2 len2 cap2] w fun e w' => e = .returned (.bool true) ∧ Below w.heap.size w w' := by
  rcases h with h1 | ⟨h1, h2⟩
  all_goals
    go_enter Try.func3, Try.ntmps3
    go_wp2_with fail
    refine (zzBytes8 H1 H2).mono ?_
    rintro e w' ⟨⟨t, rfl⟩, hw⟩
    subst hw
    cases t
    · go_wp2_with fail
      go_ret
      exact ⟨rfl, Below.refl _ _⟩
    go_wp2_with fail
    go_ret
    exact ⟨rfl, Below.refl _ _⟩

theorem numbers_any {w : World} {a1 a2 : Option Addr} {len1 cap1 b1 off1 len2 cap2 b2 off2 : Nat} {s1 s2 : List ByteArray} (H1 : IsStrs w a1 len1 cap1 b1 off1 s1) (H2 : IsStrs w a2 len2 cap2 b2 off2 s2) :
    Calls Try.prog 3 #[.slice a1 len1 cap1, .slice a2 len2 cap2] w fun e w' => e = .returned (.bool true) ∧ Below w.heap.size w w' := by
  by_cases h1 : (4096 : Int) < len1
  · exact numbers_big H1 H2 (.inl h1)
  · by_cases h2 : (4096 : Int) < len2
    · exact numbers_big H1 H2 (.inr ⟨h1, h2⟩)
    · exact numbers_walk H1 H2 h1 h2
end Go.Proofs.Qxb6000541a
