import Derived.Test.Qxb6000582aEdgesMem
namespace Go.Proofs.Qxb6000582a
open Go.RowKit Go.Sort

set_option maxHeartbeats 4000000 in
set_option maxRecDepth 100000 in
theorem edges0 {e0 e1 : Nat → Int} {w : World} {a : Option Addr} {n m cap b off : Nat} (H : IsEnds w a m cap b off e0 e1) (hnil : a = none → m = 0) (hn : n ≤ 65536) (hm : m ≤ 65536) :
    Calls Try.prog 6 #[.int .i64 n, .slice a m cap, .int .i64 0] w fun e w' => e = .returned (.bool true) ∧ Below w.heap.size w w' := by
  have HH : Hid (IsEnds w a m cap b off e0 e1) := H
  have HNIL : Hid (a = none → m = 0) := hnil
  clear H hnil
  go_enter Try.func6, Try.ntmps6
  go_wp2_with fail
  refine (zzBytes15 a n 0 m cap (by unfold maxLen; omega) w).mono ?_
  rintro e w' ⟨rfl, hw⟩
  subst hw
  rw [show decide (m ≤ 1048576) = true by simp; omega]
  go_wp2_with fail
  go_loop [7] (fun i => ∃ k : Nat, k ≤ m ∧ i = .int .i64 k ∧ Hid (∀ i, i < k → 0 ≤ e0 i ∧ e0 i < n)) (fun i => m - (intOf i).toNat)
  case atStart => exact ⟨0, Nat.zero_le _, rfl, fun i hi => absurd hi (Nat.not_lt_zero _)⟩
  case round =>
    obtain ⟨k, hk, rfl, HR⟩ := hrel
    by_cases hlt : k < m
    · have i1 := HH.out.ix k hlt
      have c0 := HH.out.c0 k hlt
      have c1 := HH.out.c1 k hlt
      by_cases hlo : e0 k < 0
      · go_wp2_with fail
        go_ret
        exact ⟨rfl, Below.refl _ _⟩
      · by_cases hhi : e0 k < n
        · have HR2 : Hid (∀ i, i < k + 1 → 0 ≤ e0 i ∧ e0 i < n) := fun i hi => by
            by_cases e : i = k
            · rw [e]; omega
            · exact HR.out i (by omega)
          generalize e0 k = x at *
          go_wp2_with fail
          go_round
          case rel => exact ⟨k + 1, by omega, by go_num, HR2⟩
          case measure => simp [intOf]; omega
        · generalize e0 k = x at *
          go_wp2_with fail
          go_ret
          exact ⟨rfl, Below.refl _ _⟩
    · obtain rfl : k = m := by omega
      obtain ⟨src, hsrc⟩ : ∃ src : Nat → Nat, ∀ i, (e0 i).toNat = src i := ⟨_, fun _ => rfl⟩
      have HSRC : Hid (∀ i, i < k → src i < n) := fun i hi => by have := HR.out i hi; rw [← hsrc]; omega
      have HE : Hid (∀ i, i < k → e0 i = ((src i : Nat) : Int)) := fun i hi => by have := HR.out i hi; rw [← hsrc]; omega
      clear HR hsrc
      go_wp2_with fail
      refine (cloneEnds_any HH.out HNIL.out hm).mono ?_
      rintro e w1 ⟨a1, cap1, b1, off1, rfl, hI, hB1, hbel⟩
      have HI : Hid (IsEnds w1 a1 k cap1 b1 off1 (fun i => ((src i : Nat) : Int)) e1) := hI.congr HE.out (fun _ _ => rfl)
      have HB : Hid (Below w'.heap.size w' w1) := hbel
      clear hI hB1 hbel HH HNIL HE
      go_wp2_with fail
      refine (zzAdjacent0 HI.out HSRC.out hn hm).mono ?_
      rintro e w2 ⟨ga, gl, rfl, hL⟩
      have HL : Hid (Lists src e1 w1 w2 n k ga gl) := hL
      have HB2 : Hid (Below w'.heap.size w' w2) := HB.out.trans (hL.bel.mono HB.out.size)
      clear hL
      have hmk := make35 n (by omega)
      have HS : Hid (E2 (fun u => uniq (lst src e1 k u)) w2 (w2.alloc (.cells (madeCells #[.slice none 0 0] n) 38)) n 0 w2.heap.size (fun _ => 0)) := E2.first _ w2 n _
      go_wp2_with fail
      obtain ⟨gh, hgh⟩ : ∃ gh, w2.heap.size = gh := ⟨_, rfl⟩
      rw [hgh] at HS ⊢
      clear hmk hgh
      go_loopw [10] (fun i wr => ∃ v : Nat, v ≤ n ∧ i = .int .i64 v ∧ ∃ hb, Hid (E2 (fun u => uniq (lst src e1 k u)) w2 wr n v gh hb)) (fun i _ => n - (intOf i).toNat)
      case atStart => exact ⟨0, Nat.zero_le _, rfl, _, HS⟩
      case round =>
        clear HS
        obtain ⟨v, hv, rfl, hb, HR⟩ := hrel
        by_cases hvn : v < n
        · have HL2 := HL.out.below HR.out.bel
          have i1 := index33 gl 0 n n v hvn
          rw [Nat.zero_add] at i1
          have c1 : wr.cell? ⟨gl, v, none⟩ = some (lv src e1 ga k v) := HL2.lists.cell hvn
          unfold lv at c1
          have hI := HL2.ints v hvn
          have hcl : (uniq (lst src e1 k v)).length ≤ 65536 := by have h1 := uniq_le (lst src e1 k v); have h2 := seg_le (src := src) (dst := e1) (m := k) hvn; omega
          obtain ⟨c, hc⟩ : ∃ c, (uniq (lst src e1 k v)).length = c := ⟨_, rfl⟩
          rw [hc] at c1 hI hcl
          have HCALL : Hid (Calls Try.prog 18 #[.slice (some ⟨ga, ofs src e1 k v, none⟩) c (k - below src e1 k v)] wr fun e w' => e = .returned (.bool true) ∧ ∃ n, w' = wr.drewN n) := ascending_any hI (uniq_asc _) (by omega)
          clear hI HL2
          generalize hoo : ofs src e1 k v = o at *
          generalize hcc : k - below src e1 k v = cp at *
          go_wp2_with fail
          refine HCALL.out.mono ?_
          rintro e wx ⟨rfl, q, hwx⟩
          have HX : Hid (E2 (fun u => uniq (lst src e1 k u)) w2 wx n v gh hb) := by rw [hwx]; exact HR.out.drewN q
          clear hwx HCALL HR c1
          have c1 : wx.cell? ⟨gl, v, none⟩ = some (lv src e1 ga k v) := (HL.out.below HX.out.bel).lists.cell hvn
          unfold lv at c1
          rw [hc, hoo, hcc] at c1
          have hmk := make38 c (by omega)
          have HST : Hid (E2 (fun u => uniq (lst src e1 k u)) w2 ((wx.alloc (.cells (madeCells #[.bool false] c) 4)).setCell ⟨gh, v, none⟩ (.slice (some ⟨wx.heap.size, 0, none⟩) c c)) n (v + 1) gh (upd hb v wx.heap.size)) := HX.out.step hc
          have i2 := index35 gh 0 n n v hvn
          rw [Nat.zero_add] at i2
          have c2 : ∀ o, (wx.alloc o).cell? ⟨gh, v, none⟩ = some (.slice none 0 0) := fun o => by rw [(HX.out.hit.alloc o).cell hvn, if_neg (Nat.lt_irrefl _)]
          have f2 : ∀ o, (wx.alloc o).frozen? ⟨gh, v, none⟩ = false := fun o => (HX.out.hit.alloc o).frozen _
          clear hc hoo hcc HX
          go_wp2_with fail
          go_roundw
          case rel => exact ⟨v + 1, by omega, by go_num, _, HST⟩
          case measure => simp [intOf]; omega
        · obtain rfl : v = n := by omega
          have HS : Hid (E3 src e1 (fun u => uniq (lst src e1 k u)) w2 wr v 0 gh hb) := HR.out.last
          clear HR
          go_wp2_with fail
          go_loopw [11] (fun i wr => ∃ j : Nat, j ≤ k ∧ i = .int .i64 j ∧ Hid (E3 src e1 (fun u => uniq (lst src e1 k u)) w2 wr v j gh hb)) (fun i _ => k - (intOf i).toNat)
          case atStart => exact ⟨0, Nat.zero_le _, rfl, HS⟩
          case round =>
            clear HS
            obtain ⟨j, hj, rfl, HR⟩ := hrel
            by_cases hjk : j < k
            · have HL2 := HL.out.below HR.out.bel
              have HI2 := HI.out.below HL2.bel (Nat.le_refl _)
              have i1 := HI2.ix j hjk
              have c0 := HI2.c0 j hjk
              have c1 := HI2.c1 j hjk
              have hsj := HSRC.out j hjk
              obtain ⟨s, hs⟩ : ∃ s, src j = s := ⟨_, rfl⟩
              rw [hs] at hsj
              simp only [hs] at c0
              have i2 := index33 gl 0 v v s hsj
              have i3 := index35 gh 0 v v s hsj
              rw [Nat.zero_add] at i2 i3
              have c2 : wr.cell? ⟨gl, s, none⟩ = some (lv src e1 ga k s) := HL2.lists.cell hsj
              unfold lv at c2
              have hI := HL2.ints s hsj
              have hcl : (uniq (lst src e1 k s)).length ≤ 65536 := by have h1 := uniq_le (lst src e1 k s); have h2 := seg_le (src := src) (dst := e1) (m := k) hsj; omega
              have hmem : e1 j ∈ uniq (lst src e1 k s) := (uniq_mem _ _).2 ((mem_lst _ s k).2 ⟨j, hjk, hs, rfl⟩)
              obtain ⟨j0, hj0, hje⟩ := List.mem_iff_getElem.1 hmem
              have hjd : (uniq (lst src e1 k s)).getD j0 0 = e1 j := by rw [List.getD_eq_getElem?_getD, List.getElem?_eq_getElem hj0]; exact hje
              obtain ⟨g, hg⟩ : ∃ g, hb s = g := ⟨_, rfl⟩
              have HST : Hid (∀ q, E3 src e1 (fun u => uniq (lst src e1 k u)) w2 ((wr.drewN q).setCell ⟨g, j0, none⟩ (.bool true)) v (j + 1) gh hb) := fun q => (HR.out.drewN q).step (fun u => uniq_asc _) hs hsj hj0 hjd hg
              have HRW := HR.out.rows s hsj
              obtain ⟨f, hf, _⟩ := HRW
              rw [hg] at hf
              have c3 : wr.cell? ⟨gh, s, none⟩ = some (.slice (some ⟨g, 0, none⟩) (uniq (lst src e1 k s)).length (uniq (lst src e1 k s)).length) := by rw [HR.out.hit.cell hsj, hg]
              have c4 : wr.cell? ⟨g, j0, none⟩ = some (.bool (f j0)) := hf.cell hj0
              have f4 : wr.frozen? ⟨g, j0, none⟩ = false := hf.frozen _
              have i4 := index38 g 0 (uniq (lst src e1 k s)).length (uniq (lst src e1 k s)).length j0 hj0
              rw [Nat.zero_add] at i4
              have HCALL : Hid (∀ q, Calls Try.prog 19 #[.slice (some ⟨ga, ofs src e1 k s, none⟩) (uniq (lst src e1 k s)).length (k - below src e1 k s), .int .i64 (e1 j)] (wr.drewN q) fun e w' => e = .returned (.int .i64 j0) ∧ w' = wr.drewN q) := fun q => search_any (hI.drewN q) (uniq_asc _) (by omega) hj0 hjd
              clear hI HL2 HI2 hs hg hf hmem hje hjd HR
              clear hj0
              generalize (uniq (lst src e1 k s)).length = c at *
              generalize ofs src e1 k s = o at *
              generalize k - below src e1 k s = cp at *
              generalize e1 j = x at *
              go_wp2_with fail
              go_quiet ((go_at_call 19; exact Calls.quiet_of_same (HCALL.out _)))
              clear i1 c0 c1 c2 i2 HCALL
              go_wp2_with fail
              go_roundw
              case rel => exact ⟨j + 1, by omega, by go_num, HST.out _⟩
              case measure => simp [intOf]; omega
            · obtain rfl : j = k := by omega
              have HF : Hid (Below w'.heap.size w' wr) := HB2.out.trans (HR.out.bel.mono HB2.out.size)
              have HHIT : Hid (∀ u, u < v → wr.cell? ⟨gh, u, none⟩ = some (.slice (some ⟨hb u, 0, none⟩) (uniq (lst src e1 j u)).length (uniq (lst src e1 j u)).length)) := fun u hu => HR.out.hit.cell hu
              have HALL : Hid (∀ u, u < v → ∀ i, i < (uniq (lst src e1 j u)).length → wr.cell? ⟨hb u, i, none⟩ = some (.bool true)) := fun u hu i hi => HR.out.all hu hi
              have HLEN : Hid (∀ u, u < v → (uniq (lst src e1 j u)).length ≤ 65536) := fun u hu => by have h1 := uniq_le (lst src e1 j u); have h2 := seg_le (src := src) (dst := e1) (m := j) hu; omega
              clear HR HI HB HB2 HL HSRC
              go_wp2_with fail
              go_loop [14] (fun i => ∃ u : Nat, u ≤ v ∧ i = .int .i64 u) (fun i => v - (intOf i).toNat)
              case atStart => exact ⟨0, Nat.zero_le _, rfl⟩
              case round =>
                obtain ⟨u, hu, rfl⟩ := hrel
                by_cases huv : u < v
                · have c1 := HHIT.out u huv
                  have i1 := index35 gh 0 v v u huv
                  rw [Nat.zero_add] at i1
                  have hlen := HLEN.out u huv
                  have HA2 : Hid (∀ i, i < (uniq (lst src e1 j u)).length → wr.cell? ⟨hb u, i, none⟩ = some (.bool true)) := HALL.out u huv
                  generalize (uniq (lst src e1 j u)).length = c at *
                  generalize hb u = g at *
                  go_wp2_with fail
                  go_loop [15] (fun i => ∃ p : Nat, p ≤ c ∧ i = .int .i64 p) (fun i => c - (intOf i).toNat)
                  case atStart => exact ⟨0, Nat.zero_le _, rfl⟩
                  case round =>
                    obtain ⟨p, hp, rfl⟩ := hrel
                    by_cases hpc : p < c
                    · have c2 := HA2.out p hpc
                      have i2 := index38 g 0 c c p hpc
                      rw [Nat.zero_add] at i2
                      go_wp2_with fail
                      go_round
                      case rel => exact ⟨p + 1, by omega, by go_num⟩
                      case measure => simp [intOf]; omega
                    · go_wp2_with fail
                      go_round
                      case rel => exact ⟨u + 1, by omega, by go_num⟩
                      case measure => simp [intOf]; omega
                · go_wp2_with fail
                  go_ret
                  exact ⟨rfl, HF.out⟩
set_option maxHeartbeats 4000000 in
set_option maxRecDepth 100000 in
theorem edges1 {e0 e1 : Nat → Int} {w : World} {a : Option Addr} {n m cap b off : Nat} (H : IsEnds w a m cap b off e1 e0) (hnil : a = none → m = 0) (hn : n ≤ 65536) (hm : m ≤ 65536) :
    Calls Try.prog 6 #[.int .i64 n, .slice a m cap, .int .i64 1] w fun e w' => e = .returned (.bool true) ∧ Below w.heap.size w w' := by
  have HH : Hid (IsEnds w a m cap b off e1 e0) := H
  have HNIL : Hid (a = none → m = 0) := hnil
  clear H hnil
  go_enter Try.func6, Try.ntmps6
  go_wp2_with fail
  refine (zzBytes15 a n 1 m cap (by unfold maxLen; omega) w).mono ?_
  rintro e w' ⟨rfl, hw⟩
  subst hw
  rw [show decide (m ≤ 1048576) = true by simp; omega]
  go_wp2_with fail
  go_loop [7] (fun i => ∃ k : Nat, k ≤ m ∧ i = .int .i64 k ∧ Hid (∀ i, i < k → 0 ≤ e0 i ∧ e0 i < n)) (fun i => m - (intOf i).toNat)
  case atStart => exact ⟨0, Nat.zero_le _, rfl, fun i hi => absurd hi (Nat.not_lt_zero _)⟩
  case round =>
    obtain ⟨k, hk, rfl, HR⟩ := hrel
    by_cases hlt : k < m
    · have i1 := HH.out.ix k hlt
      have c0 := HH.out.c0 k hlt
      have c1 := HH.out.c1 k hlt
      by_cases hlo : e0 k < 0
      · go_wp2_with fail
        go_ret
        exact ⟨rfl, Below.refl _ _⟩
      · by_cases hhi : e0 k < n
        · have HR2 : Hid (∀ i, i < k + 1 → 0 ≤ e0 i ∧ e0 i < n) := fun i hi => by
            by_cases e : i = k
            · rw [e]; omega
            · exact HR.out i (by omega)
          generalize e0 k = x at *
          go_wp2_with fail
          go_round
          case rel => exact ⟨k + 1, by omega, by go_num, HR2⟩
          case measure => simp [intOf]; omega
        · generalize e0 k = x at *
          go_wp2_with fail
          go_ret
          exact ⟨rfl, Below.refl _ _⟩
    · obtain rfl : k = m := by omega
      obtain ⟨src, hsrc⟩ : ∃ src : Nat → Nat, ∀ i, (e0 i).toNat = src i := ⟨_, fun _ => rfl⟩
      have HSRC : Hid (∀ i, i < k → src i < n) := fun i hi => by have := HR.out i hi; rw [← hsrc]; omega
      have HE : Hid (∀ i, i < k → e0 i = ((src i : Nat) : Int)) := fun i hi => by have := HR.out i hi; rw [← hsrc]; omega
      clear HR hsrc
      go_wp2_with fail
      refine (cloneEnds_any HH.out HNIL.out hm).mono ?_
      rintro e w1 ⟨a1, cap1, b1, off1, rfl, hI, hB1, hbel⟩
      have HI : Hid (IsEnds w1 a1 k cap1 b1 off1 e1 (fun i => ((src i : Nat) : Int))) := hI.congr (fun _ _ => rfl) HE.out
      have HB : Hid (Below w'.heap.size w' w1) := hbel
      clear hI hB1 hbel HH HNIL HE
      go_wp2_with fail
      refine (zzAdjacent1 HI.out HSRC.out hn hm).mono ?_
      rintro e w2 ⟨ga, gl, rfl, hL⟩
      have HL : Hid (Lists src e1 w1 w2 n k ga gl) := hL
      have HB2 : Hid (Below w'.heap.size w' w2) := HB.out.trans (hL.bel.mono HB.out.size)
      clear hL
      have hmk := make35 n (by omega)
      have HS : Hid (E2 (fun u => uniq (lst src e1 k u)) w2 (w2.alloc (.cells (madeCells #[.slice none 0 0] n) 38)) n 0 w2.heap.size (fun _ => 0)) := E2.first _ w2 n _
      go_wp2_with fail
      obtain ⟨gh, hgh⟩ : ∃ gh, w2.heap.size = gh := ⟨_, rfl⟩
      rw [hgh] at HS ⊢
      clear hmk hgh
      go_loopw [10] (fun i wr => ∃ v : Nat, v ≤ n ∧ i = .int .i64 v ∧ ∃ hb, Hid (E2 (fun u => uniq (lst src e1 k u)) w2 wr n v gh hb)) (fun i _ => n - (intOf i).toNat)
      case atStart => exact ⟨0, Nat.zero_le _, rfl, _, HS⟩
      case round =>
        clear HS
        obtain ⟨v, hv, rfl, hb, HR⟩ := hrel
        by_cases hvn : v < n
        · have HL2 := HL.out.below HR.out.bel
          have i1 := index33 gl 0 n n v hvn
          rw [Nat.zero_add] at i1
          have c1 : wr.cell? ⟨gl, v, none⟩ = some (lv src e1 ga k v) := HL2.lists.cell hvn
          unfold lv at c1
          have hI := HL2.ints v hvn
          have hcl : (uniq (lst src e1 k v)).length ≤ 65536 := by have h1 := uniq_le (lst src e1 k v); have h2 := seg_le (src := src) (dst := e1) (m := k) hvn; omega
          obtain ⟨c, hc⟩ : ∃ c, (uniq (lst src e1 k v)).length = c := ⟨_, rfl⟩
          rw [hc] at c1 hI hcl
          have HCALL : Hid (Calls Try.prog 18 #[.slice (some ⟨ga, ofs src e1 k v, none⟩) c (k - below src e1 k v)] wr fun e w' => e = .returned (.bool true) ∧ ∃ n, w' = wr.drewN n) := ascending_any hI (uniq_asc _) (by omega)
          clear hI HL2
          generalize hoo : ofs src e1 k v = o at *
          generalize hcc : k - below src e1 k v = cp at *
          go_wp2_with fail
          refine HCALL.out.mono ?_
          rintro e wx ⟨rfl, q, hwx⟩
          have HX : Hid (E2 (fun u => uniq (lst src e1 k u)) w2 wx n v gh hb) := by rw [hwx]; exact HR.out.drewN q
          clear hwx HCALL HR c1
          have c1 : wx.cell? ⟨gl, v, none⟩ = some (lv src e1 ga k v) := (HL.out.below HX.out.bel).lists.cell hvn
          unfold lv at c1
          rw [hc, hoo, hcc] at c1
          have hmk := make38 c (by omega)
          have HST : Hid (E2 (fun u => uniq (lst src e1 k u)) w2 ((wx.alloc (.cells (madeCells #[.bool false] c) 4)).setCell ⟨gh, v, none⟩ (.slice (some ⟨wx.heap.size, 0, none⟩) c c)) n (v + 1) gh (upd hb v wx.heap.size)) := HX.out.step hc
          have i2 := index35 gh 0 n n v hvn
          rw [Nat.zero_add] at i2
          have c2 : ∀ o, (wx.alloc o).cell? ⟨gh, v, none⟩ = some (.slice none 0 0) := fun o => by rw [(HX.out.hit.alloc o).cell hvn, if_neg (Nat.lt_irrefl _)]
          have f2 : ∀ o, (wx.alloc o).frozen? ⟨gh, v, none⟩ = false := fun o => (HX.out.hit.alloc o).frozen _
          clear hc hoo hcc HX
          go_wp2_with fail
          go_roundw
          case rel => exact ⟨v + 1, by omega, by go_num, _, HST⟩
          case measure => simp [intOf]; omega
        · obtain rfl : v = n := by omega
          have HS : Hid (E3 src e1 (fun u => uniq (lst src e1 k u)) w2 wr v 0 gh hb) := HR.out.last
          clear HR
          go_wp2_with fail
          go_loopw [11] (fun i wr => ∃ j : Nat, j ≤ k ∧ i = .int .i64 j ∧ Hid (E3 src e1 (fun u => uniq (lst src e1 k u)) w2 wr v j gh hb)) (fun i _ => k - (intOf i).toNat)
          case atStart => exact ⟨0, Nat.zero_le _, rfl, HS⟩
          case round =>
            clear HS
            obtain ⟨j, hj, rfl, HR⟩ := hrel
            by_cases hjk : j < k
            · have HL2 := HL.out.below HR.out.bel
              have HI2 := HI.out.below HL2.bel (Nat.le_refl _)
              have i1 := HI2.ix j hjk
              have c0 := HI2.c0 j hjk
              have c1 := HI2.c1 j hjk
              have hsj := HSRC.out j hjk
              obtain ⟨s, hs⟩ : ∃ s, src j = s := ⟨_, rfl⟩
              rw [hs] at hsj
              simp only [hs] at c1
              have i2 := index33 gl 0 v v s hsj
              have i3 := index35 gh 0 v v s hsj
              rw [Nat.zero_add] at i2 i3
              have c2 : wr.cell? ⟨gl, s, none⟩ = some (lv src e1 ga k s) := HL2.lists.cell hsj
              unfold lv at c2
              have hI := HL2.ints s hsj
              have hcl : (uniq (lst src e1 k s)).length ≤ 65536 := by have h1 := uniq_le (lst src e1 k s); have h2 := seg_le (src := src) (dst := e1) (m := k) hsj; omega
              have hmem : e1 j ∈ uniq (lst src e1 k s) := (uniq_mem _ _).2 ((mem_lst _ s k).2 ⟨j, hjk, hs, rfl⟩)
              obtain ⟨j0, hj0, hje⟩ := List.mem_iff_getElem.1 hmem
              have hjd : (uniq (lst src e1 k s)).getD j0 0 = e1 j := by rw [List.getD_eq_getElem?_getD, List.getElem?_eq_getElem hj0]; exact hje
              obtain ⟨g, hg⟩ : ∃ g, hb s = g := ⟨_, rfl⟩
              have HST : Hid (∀ q, E3 src e1 (fun u => uniq (lst src e1 k u)) w2 ((wr.drewN q).setCell ⟨g, j0, none⟩ (.bool true)) v (j + 1) gh hb) := fun q => (HR.out.drewN q).step (fun u => uniq_asc _) hs hsj hj0 hjd hg
              have HRW := HR.out.rows s hsj
              obtain ⟨f, hf, _⟩ := HRW
              rw [hg] at hf
              have c3 : wr.cell? ⟨gh, s, none⟩ = some (.slice (some ⟨g, 0, none⟩) (uniq (lst src e1 k s)).length (uniq (lst src e1 k s)).length) := by rw [HR.out.hit.cell hsj, hg]
              have c4 : wr.cell? ⟨g, j0, none⟩ = some (.bool (f j0)) := hf.cell hj0
              have f4 : wr.frozen? ⟨g, j0, none⟩ = false := hf.frozen _
              have i4 := index38 g 0 (uniq (lst src e1 k s)).length (uniq (lst src e1 k s)).length j0 hj0
              rw [Nat.zero_add] at i4
              have HCALL : Hid (∀ q, Calls Try.prog 19 #[.slice (some ⟨ga, ofs src e1 k s, none⟩) (uniq (lst src e1 k s)).length (k - below src e1 k s), .int .i64 (e1 j)] (wr.drewN q) fun e w' => e = .returned (.int .i64 j0) ∧ w' = wr.drewN q) := fun q => search_any (hI.drewN q) (uniq_asc _) (by omega) hj0 hjd
              clear hI HL2 HI2 hs hg hf hmem hje hjd HR
              clear hj0
              generalize (uniq (lst src e1 k s)).length = c at *
              generalize ofs src e1 k s = o at *
              generalize k - below src e1 k s = cp at *
              generalize e1 j = x at *
              go_wp2_with fail
              go_quiet ((go_at_call 19; exact Calls.quiet_of_same (HCALL.out _)))
              clear i1 c0 c1 c2 i2 HCALL
              go_wp2_with fail
              go_roundw
              case rel => exact ⟨j + 1, by omega, by go_num, HST.out _⟩
              case measure => simp [intOf]; omega
            · obtain rfl : j = k := by omega
              have HF : Hid (Below w'.heap.size w' wr) := HB2.out.trans (HR.out.bel.mono HB2.out.size)
              have HHIT : Hid (∀ u, u < v → wr.cell? ⟨gh, u, none⟩ = some (.slice (some ⟨hb u, 0, none⟩) (uniq (lst src e1 j u)).length (uniq (lst src e1 j u)).length)) := fun u hu => HR.out.hit.cell hu
              have HALL : Hid (∀ u, u < v → ∀ i, i < (uniq (lst src e1 j u)).length → wr.cell? ⟨hb u, i, none⟩ = some (.bool true)) := fun u hu i hi => HR.out.all hu hi
              have HLEN : Hid (∀ u, u < v → (uniq (lst src e1 j u)).length ≤ 65536) := fun u hu => by have h1 := uniq_le (lst src e1 j u); have h2 := seg_le (src := src) (dst := e1) (m := j) hu; omega
              clear HR HI HB HB2 HL HSRC
              go_wp2_with fail
              go_loop [14] (fun i => ∃ u : Nat, u ≤ v ∧ i = .int .i64 u) (fun i => v - (intOf i).toNat)
              case atStart => exact ⟨0, Nat.zero_le _, rfl⟩
              case round =>
                obtain ⟨u, hu, rfl⟩ := hrel
                by_cases huv : u < v
                · have c1 := HHIT.out u huv
                  have i1 := index35 gh 0 v v u huv
                  rw [Nat.zero_add] at i1
                  have hlen := HLEN.out u huv
                  have HA2 : Hid (∀ i, i < (uniq (lst src e1 j u)).length → wr.cell? ⟨hb u, i, none⟩ = some (.bool true)) := HALL.out u huv
                  generalize (uniq (lst src e1 j u)).length = c at *
                  generalize hb u = g at *
                  go_wp2_with fail
                  go_loop [15] (fun i => ∃ p : Nat, p ≤ c ∧ i = .int .i64 p) (fun i => c - (intOf i).toNat)
                  case atStart => exact ⟨0, Nat.zero_le _, rfl⟩
                  case round =>
                    obtain ⟨p, hp, rfl⟩ := hrel
                    by_cases hpc : p < c
                    · have c2 := HA2.out p hpc
                      have i2 := index38 g 0 c c p hpc
                      rw [Nat.zero_add] at i2
                      go_wp2_with fail
                      go_round
                      case rel => exact ⟨p + 1, by omega, by go_num⟩
                      case measure => simp [intOf]; omega
                    · go_wp2_with fail
                      go_round
                      case rel => exact ⟨u + 1, by omega, by go_num⟩
                      case measure => simp [intOf]; omega
                · go_wp2_with fail
                  go_ret
                  exact ⟨rfl, HF.out⟩

theorem edges_true (a : Option Addr) (n f : Int) (len cap : Nat) (hl : len ≤ maxLen) (w : World) (h : 65536 < len ∨ n < 0 ∨ 65536 < n ∨ (f ≠ 0 ∧ f ≠ 1)) :
    Calls Try.prog 6 #[.int .i64 n, .slice a len cap, .int .i64 f] w fun e w' => e = .returned (.bool true) ∧ Below w.heap.size w w' := by
  by_cases h0 : len ≤ 1048576
  · by_cases h1 : 65536 < len
    · go_enter Try.func6, Try.ntmps6
      go_wp2_with fail
      refine (zzBytes15 a n f len cap hl w).mono ?_
      rintro e w' ⟨rfl, hw⟩
      subst hw
      rw [show decide (len ≤ 1048576) = true by simpa using h0]
      go_wp2_with fail
      go_ret
      exact ⟨rfl, Below.refl _ _⟩
    · by_cases h2 : n < 0
      · go_enter Try.func6, Try.ntmps6
        go_wp2_with fail
        refine (zzBytes15 a n f len cap hl w).mono ?_
        rintro e w' ⟨rfl, hw⟩
        subst hw
        rw [show decide (len ≤ 1048576) = true by simpa using h0]
        go_wp2_with fail
        go_ret
        exact ⟨rfl, Below.refl _ _⟩
      · by_cases h3 : 65536 < n
        · go_enter Try.func6, Try.ntmps6
          go_wp2_with fail
          refine (zzBytes15 a n f len cap hl w).mono ?_
          rintro e w' ⟨rfl, hw⟩
          subst hw
          rw [show decide (len ≤ 1048576) = true by simpa using h0]
          go_wp2_with fail
          go_ret
          exact ⟨rfl, Below.refl _ _⟩
        · have h4 : f ≠ 0 ∧ f ≠ 1 := by omega
          have t0 : (f != 0) = true := by simpa using h4.1
          have t1 : (f != 1) = true := by simpa using h4.2
          clear h
          go_enter Try.func6, Try.ntmps6
          go_wp2_with fail
          refine (zzBytes15 a n f len cap hl w).mono ?_
          rintro e w' ⟨rfl, hw⟩
          subst hw
          rw [show decide (len ≤ 1048576) = true by simpa using h0]
          go_wp2_with fail
          go_ret
          exact ⟨rfl, Below.refl _ _⟩
  · go_enter Try.func6, Try.ntmps6
    go_wp2_with fail
    refine (zzBytes15 a n f len cap hl w).mono ?_
    rintro e w' ⟨rfl, hw⟩
    subst hw
    rw [show decide (len ≤ 1048576) = false by simpa using h0]
    go_wp2_with fail
    go_ret
    exact ⟨rfl, Below.refl _ _⟩

theorem edges_any {e0 e1 : Nat → Int} {w : World} {a : Option Addr} {m cap b off : Nat} (n f : Int) (H : IsEnds w a m cap b off e0 e1) (hnil : a = none → m = 0) (hl : m ≤ maxLen) :
    Calls Try.prog 6 #[.int .i64 n, .slice a m cap, .int .i64 f] w fun e w' => e = .returned (.bool true) ∧ Below w.heap.size w w' := by
  by_cases h : 65536 < m ∨ n < 0 ∨ 65536 < n ∨ (f ≠ 0 ∧ f ≠ 1)
  · exact edges_true a n f m cap hl w h
  · obtain ⟨N, rfl⟩ : ∃ N : Nat, n = N := ⟨n.toNat, by omega⟩
    by_cases hf : f = 0
    · rw [hf]; exact edges0 H hnil (by omega) (by omega)
    · rw [show f = 1 by omega]; exact edges1 H hnil (by omega) (by omega)
end Go.Proofs.Qxb6000582a
