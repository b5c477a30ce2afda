import Derived.Test.Qxb6000582aEdgesMem
import Derived.Test.Qxb6000582aTransPlain
namespace Go.Proofs.Qxb6000582a
open Go.RowKit Go.Sort

/-- A row of lists, as the walks are told of it. -/
structure LV (w : World) (n gl ga : Nat) (L : Nat → List Int) (o cp : Nat → Nat) : Prop where
  cell : ∀ v, v < n → w.cell? ⟨gl, v, none⟩ = some (.slice (some ⟨ga, o v, none⟩) (L v).length (cp v))
  ints : ∀ v, v < n → IsInts w (some ⟨ga, o v, none⟩) (L v).length (cp v) ga (o v) (L v)

theorem Lists.lv {src : Nat → Nat} {dst : Nat → Int} {w1 w2 : World} {n m ga gl : Nat} (h : Lists src dst w1 w2 n m ga gl) : LV w2 n gl ga (fun v => uniq (lst src dst m v)) (fun v => ofs src dst m v) (fun v => m - Qxb6000582a.below src dst m v) :=
  ⟨fun _ hv => h.lists.cell hv, h.ints⟩

theorem LV.drewN {w : World} {n gl ga : Nat} {L : Nat → List Int} {o cp : Nat → Nat} (h : LV w n gl ga L o cp) (q : Nat) : LV (w.drewN q) n gl ga L o cp :=
  ⟨fun v hv => h.cell v hv, fun v hv => (h.ints v hv).drewN q⟩

/-- What the law needs of the two rows of lists. -/
structure TF (w : World) (n gl ga gm gb : Nat) (O : Nat → List Int) (o1 p1 : Nat → Nat) (I : Nat → List Int) (o2 p2 : Nat → Nat) : Prop where
  out : LV w n gl ga O o1 p1
  inn : LV w n gm gb I o2 p2
  len1 : ∀ v, v < n → (O v).length ≤ 65536
  len2 : ∀ v, v < n → (I v).length ≤ 65536
  asc1 : ∀ v, Asc (O v)
  asc2 : ∀ v, Asc (I v)
  tot : sumTo n (fun v => (O v).length) = sumTo n (fun v => (I v).length)
  tie : ∀ v, v < n → ∀ x ∈ O v, ∃ y : Nat, y < n ∧ x = (y : Int) ∧ (v : Int) ∈ I y

theorem TF.of {s0 s1 : Nat → Nat} {w1 w2 w3 : World} {n m ga gl gb gm : Nat} (h0 : Lists s0 (fun i => ((s1 i : Nat) : Int)) w1 w3 n m ga gl) (h1 : Lists s1 (fun i => ((s0 i : Nat) : Int)) w2 w3 n m gb gm) (hs0 : ∀ i, i < m → s0 i < n) (hs1 : ∀ i, i < m → s1 i < n) (hm : m ≤ 65536) :
    TF w3 n gl ga gm gb (fun v => uniq (lst s0 (fun i => ((s1 i : Nat) : Int)) m v)) (fun v => ofs s0 (fun i => ((s1 i : Nat) : Int)) m v) (fun v => m - below s0 (fun i => ((s1 i : Nat) : Int)) m v) (fun v => uniq (lst s1 (fun i => ((s0 i : Nat) : Int)) m v)) (fun v => ofs s1 (fun i => ((s0 i : Nat) : Int)) m v) (fun v => m - below s1 (fun i => ((s0 i : Nat) : Int)) m v) :=
  ⟨h0.lv, h1.lv,
    fun v hv => by have h1 := uniq_le (lst s0 (fun i => (s1 i : Int)) m v); have h2 := seg_le (src := s0) (dst := fun i => (s1 i : Int)) (m := m) hv; omega,
    fun v hv => by have h1 := uniq_le (lst s1 (fun i => (s0 i : Int)) m v); have h2 := seg_le (src := s1) (dst := fun i => (s0 i : Int)) (m := m) hv; omega,
    fun v => uniq_asc _, fun v => uniq_asc _, totals_eq hs0 hs1, fun v hv x hx => by
      obtain ⟨i, hi, h1, h2⟩ := (mem_lst x v m).1 ((uniq_mem _ _).1 hx)
      exact ⟨s1 i, hs1 i hi, h2.symm, (uniq_mem _ _).2 ((mem_lst _ _ m).2 ⟨i, hi, rfl, by rw [h1]⟩)⟩⟩

set_option maxHeartbeats 4000000 in
set_option maxRecDepth 100000 in
theorem trans0 {e0 e1 : Nat → Int} {w : World} {a : Option Addr} {n m cap b off : Nat} (H : IsEnds w a m cap b off e0 e1) (hnil : a = none → m = 0) (hn : n ≤ 65536) (hm : m ≤ 65536) :
    Calls Try.prog 7 #[.int .i64 n, .slice a m cap] w fun e w' => e = .returned (.bool true) ∧ Below w.heap.size w w' := by
  have HH : Hid (IsEnds w a m cap b off e0 e1) := H
  have HNIL : Hid (a = none → m = 0) := hnil
  clear H hnil
  go_enter Try.func7, Try.ntmps7
  go_wp2_with fail
  refine (zzBytes20 a n m cap (by unfold maxLen; omega) w).mono ?_
  rintro e w' ⟨rfl, hw⟩
  subst hw
  rw [show decide (m ≤ 1048576) = true by simp; omega]
  go_wp2_with fail
  go_loop [5] (fun i => ∃ k : Nat, k ≤ m ∧ i = .int .i64 k ∧ Hid (∀ i, i < k → 0 ≤ e0 i ∧ e0 i < n ∧ 0 ≤ e1 i ∧ e1 i < n)) (fun i => m - (intOf i).toNat)
  case atStart => exact ⟨0, Nat.zero_le _, rfl, fun i hi => absurd hi (Nat.not_lt_zero _)⟩
  case round =>
    obtain ⟨k, hk, rfl, HR⟩ := hrel
    by_cases hlt : k < m
    · have i1 := HH.out.ix k hlt
      have c0 := HH.out.c0 k hlt
      have c1 := HH.out.c1 k hlt
      by_cases hb : 0 ≤ e0 k ∧ e0 k < n ∧ 0 ≤ e1 k ∧ e1 k < n
      · have HR2 : Hid (∀ i, i < k + 1 → 0 ≤ e0 i ∧ e0 i < n ∧ 0 ≤ e1 i ∧ e1 i < n) := fun i hi => by
          by_cases e : i = k
          · rw [e]; exact hb
          · exact HR.out i (by omega)
        obtain ⟨b1, b2, b3, b4⟩ := hb
        generalize e0 k = x at *
        generalize e1 k = y at *
        go_wp2_with fail
        go_round
        case rel => exact ⟨k + 1, by omega, by go_num, HR2⟩
        case measure => simp [intOf]; omega
      · clear HR
        generalize e0 k = x at *
        generalize e1 k = y at *
        have HBAD : Hid (¬ (0 ≤ x ∧ x < n ∧ 0 ≤ y ∧ y < n)) := hb
        by_cases h1 : x < 0
        · clear hb
          go_wp2_with fail
          go_ret
          exact ⟨rfl, Below.refl _ _⟩
        · by_cases h2 : x < n
          · by_cases h3 : y < 0
            · clear hb
              go_wp2_with fail
              go_ret
              exact ⟨rfl, Below.refl _ _⟩
            · have h4 : ¬ y < n := by omega
              clear hb
              go_wp2_with fail
              go_ret
              exact ⟨rfl, Below.refl _ _⟩
          · clear hb
            go_wp2_with fail
            go_ret
            exact ⟨rfl, Below.refl _ _⟩
    · obtain rfl : k = m := by omega
      obtain ⟨s0, hs0⟩ : ∃ src : Nat → Nat, ∀ i, (e0 i).toNat = src i := ⟨_, fun _ => rfl⟩
      obtain ⟨s1, hs1⟩ : ∃ src : Nat → Nat, ∀ i, (e1 i).toNat = src i := ⟨_, fun _ => rfl⟩
      have HS0 : Hid (∀ i, i < k → s0 i < n) := fun i hi => by have := HR.out i hi; rw [← hs0]; omega
      have HS1 : Hid (∀ i, i < k → s1 i < n) := fun i hi => by have := HR.out i hi; rw [← hs1]; omega
      have HE0 : Hid (∀ i, i < k → e0 i = ((s0 i : Nat) : Int)) := fun i hi => by have := HR.out i hi; rw [← hs0]; omega
      have HE1 : Hid (∀ i, i < k → e1 i = ((s1 i : Nat) : Int)) := fun i hi => by have := HR.out i hi; rw [← hs1]; omega
      clear HR hs0 hs1
      go_wp2_with fail
      refine (cloneEnds_any HH.out HNIL.out hm).mono ?_
      rintro e w1 ⟨a1, cap1, b1, off1, rfl, hI, hB1, hbel⟩
      have HI : Hid (IsEnds w1 a1 k cap1 b1 off1 (fun i => ((s0 i : Nat) : Int)) (fun i => ((s1 i : Nat) : Int))) := hI.congr HE0.out HE1.out
      have HB : Hid (Below w'.heap.size w' w1) := hbel
      clear hI hB1 hbel HH HNIL HE0 HE1
      go_wp2_with fail
      refine (zzAdjacent0 HI.out HS0.out hn hm).mono ?_
      rintro e w2 ⟨ga, gl, rfl, hL⟩
      have HL : Hid (Lists s0 (fun i => ((s1 i : Nat) : Int)) w1 w2 n k ga gl) := hL
      have HB2 : Hid (Below w'.heap.size w' w2) := HB.out.trans (hL.bel.mono HB.out.size)
      clear hL HB
      go_wp2_with fail
      refine (zzAdjacent1 (HI.out.below HL.out.bel (Nat.le_refl _)) HS1.out hn hm).mono ?_
      rintro e w3 ⟨gb, gm, rfl, hL⟩
      have HB3 : Hid (Below w'.heap.size w' w3) := HB2.out.trans (hL.bel.mono HB2.out.size)
      obtain ⟨O, o1, p1, I, o2, p2, HF⟩ : ∃ (O : Nat → List Int) (o1 p1 : Nat → Nat) (I : Nat → List Int) (o2 p2 : Nat → Nat), Hid (TF w3 n gl ga gm gb O o1 p1 I o2 p2) := ⟨_, _, _, _, _, _, TF.of (HL.out.below hL.bel) hL HS0.out HS1.out hm⟩
      clear hL HL HB2 HS0 HS1 HI
      go_wp2_with fail
      go_loopw [8, 9, 10] (fun t1 t2 i wr => ∃ v : Nat, v ≤ n ∧ i = .int .i64 v ∧ t1 = .int .i64 ((sumTo v (fun u => (O u).length) : Nat) : Int) ∧ t2 = .int .i64 ((sumTo v (fun u => (I u).length) : Nat) : Int) ∧ ∃ q, wr = w3.drewN q) (fun _ _ i _ => n - (intOf i).toNat)
      case atStart => exact ⟨0, Nat.zero_le _, rfl, rfl, rfl, 0, rfl⟩
      case round =>
        obtain ⟨v, hv, rfl, rfl, rfl, q, rfl⟩ := hrel
        have HW : Hid (LV (w3.drewN q) n gl ga O o1 p1 ∧ LV (w3.drewN q) n gm gb I o2 p2) := ⟨HF.out.out.drewN q, HF.out.inn.drewN q⟩
        by_cases hvn : v < n
        · have i1 := index33 gl 0 n n v hvn
          have i2 := index33 gm 0 n n v hvn
          rw [Nat.zero_add] at i1 i2
          have c1 := HF.out.out.cell v hvn
          have c2 := HF.out.inn.cell v hvn
          have l1 := HF.out.len1 v hvn
          have l2 := HF.out.len2 v hvn
          have b1 := sumTo_le (f := fun u => (O u).length) (c := 65536) v (fun u hu => HF.out.len1 u (by omega))
          have b2 := sumTo_le (f := fun u => (I u).length) (c := 65536) v (fun u hu => HF.out.len2 u (by omega))
          have HC1 : Hid (∀ q, Calls Try.prog 18 #[.slice (some ⟨ga, o1 v, none⟩) (O v).length (p1 v)] (w3.drewN q) fun e w' => e = .returned (.bool true) ∧ ∃ n, w' = (w3.drewN q).drewN n) := fun q => ascending_any ((HF.out.out.drewN q).ints v hvn) (HF.out.asc1 v) (by omega)
          have HC2 : Hid (∀ q, Calls Try.prog 18 #[.slice (some ⟨gb, o2 v, none⟩) (I v).length (p2 v)] (w3.drewN q) fun e w' => e = .returned (.bool true) ∧ ∃ n, w' = (w3.drewN q).drewN n) := fun q => ascending_any ((HF.out.inn.drewN q).ints v hvn) (HF.out.asc2 v) (by omega)
          have E1 : Hid (sumTo (v + 1) (fun u => (O u).length) = sumTo v (fun u => (O u).length) + (O v).length) := rfl
          have E2' : Hid (sumTo (v + 1) (fun u => (I u).length) = sumTo v (fun u => (I u).length) + (I v).length) := rfl
          generalize sumTo v (fun u => (O u).length) = z1 at *
          generalize sumTo v (fun u => (I u).length) = z2 at *
          generalize (O v).length = x1 at *
          generalize (I v).length = x2 at *
          generalize o1 v = y1 at *
          generalize o2 v = y2 at *
          generalize p1 v = r1 at *
          generalize p2 v = r2 at *
          have b3 : z1 ≤ 4294967296 := by omega
          have b4 : z2 ≤ 4294967296 := by omega
          clear b1 b2 HW
          go_wp2_with fail
          refine (HC1.out _).mono ?_
          rintro e wx ⟨rfl, q1, hwx⟩
          rw [show (w3.drewN q).drewN q1 = w3.drewN (q + q1) by simp [World.drewN, Nat.add_assoc]] at hwx
          subst hwx
          go_wp2_with fail
          refine (HC2.out _).mono ?_
          rintro e wx ⟨rfl, q2, hwx⟩
          rw [show (w3.drewN (q + q1)).drewN q2 = w3.drewN (q + q1 + q2) by simp [World.drewN, Nat.add_assoc]] at hwx
          subst hwx
          go_wp2_with fail
          go_roundw
          case rel => exact ⟨v + 1, by omega, by go_num, by rw [E1.out]; simp, by rw [E2'.out]; simp, _, rfl⟩
          case measure => simp [intOf]; omega
        · obtain rfl : v = n := by omega
          rw [HF.out.tot]
          generalize sumTo v (fun u => (I u).length) = z at *
          have HBF : Hid (Below w'.heap.size w' (w3.drewN q)) := below_drewN HB3.out q
          clear HB3
          go_wp2_with fail
          go_loop [11] (fun i => ∃ u : Nat, u ≤ v ∧ i = .int .i64 u) (fun i => v - (intOf i).toNat)
          case atStart => exact ⟨0, Nat.zero_le _, rfl⟩
          case round =>
            obtain ⟨u, hu, rfl⟩ := hrel
            by_cases huv : u < v
            · have c1 := HF.out.out.cell u huv
              have i1 := index33 gl 0 v v u huv
              rw [Nat.zero_add] at i1
              have hlen := HF.out.len1 u huv
              have HA2 := HF.out.out.ints u huv
              have HIX : Hid (IsInts w3 (some ⟨ga, o1 u, none⟩) (O u).length (p1 u) ga (o1 u) (O u)) := HA2
              have HTIE : Hid (∀ j, j < (O u).length → ∃ y : Nat, y < v ∧ (O u).getD j 0 = (y : Int) ∧ (u : Int) ∈ I y) := fun j hj => HF.out.tie u huv _ (by rw [List.getD_eq_getElem?_getD, List.getElem?_eq_getElem hj]; exact List.getElem_mem hj)
              clear HA2
              generalize hOu : O u = Z at *
              clear hOu
              generalize o1 u = y1 at *
              generalize p1 u = r1 at *
              go_wp2_with fail
              go_loop [12] (fun i => ∃ p : Nat, p ≤ Z.length ∧ i = .int .i64 p) (fun i => Z.length - (intOf i).toNat)
              case atStart => exact ⟨0, Nat.zero_le _, rfl⟩
              case round =>
                obtain ⟨p, hp, rfl⟩ := hrel
                by_cases hpc : p < Z.length
                · have i2 := HIX.out.ix p hpc
                  have c2 := HIX.out.cell p hpc
                  obtain ⟨y, hy, hyz, hmem⟩ := HTIE.out p hpc
                  rw [hyz] at c2
                  obtain ⟨j0, hj0, hje⟩ := List.mem_iff_getElem.1 hmem
                  have hjd : (I y).getD j0 0 = (u : Int) := by rw [List.getD_eq_getElem?_getD, List.getElem?_eq_getElem hj0]; exact hje
                  have i3 := index33 gm 0 v v y hy
                  rw [Nat.zero_add] at i3
                  have c3 := HF.out.inn.cell y hy
                  have HCALL : Hid (Calls Try.prog 19 #[.slice (some ⟨gb, o2 y, none⟩) (I y).length (p2 y), .int .i64 u] (w3.drewN q) fun e w' => e = .returned (.int .i64 j0) ∧ w' = w3.drewN q) := search_any ((HF.out.inn.drewN q).ints y hy) (HF.out.asc2 y) (by have := HF.out.len2 y hy; omega) hj0 hjd
                  clear hmem hje hjd hj0
                  generalize (I y).length = x2 at *
                  generalize o2 y = y2 at *
                  generalize p2 y = r2 at *
                  go_wp2_with fail
                  refine HCALL.out.mono ?_
                  rintro e wx ⟨rfl, hwx⟩
                  subst hwx
                  go_wp2_with fail
                  go_round
                  case rel => exact ⟨p + 1, by omega, by go_num⟩
                  case measure => simp [intOf]; omega
                · go_wp2_with fail
                  go_round
                  case rel => exact ⟨u + 1, by omega, by go_num⟩
                  case measure => simp [intOf]; omega
            · go_wp2_with fail
              go_ret
              exact ⟨rfl, HBF.out⟩

set_option maxRecDepth 100000 in
theorem trans_true (a : Option Addr) (n : Int) (len cap : Nat) (hl : len ≤ maxLen) (w : World) (h : 65536 < len ∨ n < 0 ∨ 65536 < n) :
    Calls Try.prog 7 #[.int .i64 n, .slice a len cap] w fun e w' => e = .returned (.bool true) ∧ Below w.heap.size w w' := by
  by_cases h0 : len ≤ 1048576
  · by_cases h1 : 65536 < len
    · go_enter Try.func7, Try.ntmps7
      go_wp2_with fail
      refine (zzBytes20 a n len cap hl w).mono ?_
      rintro e w' ⟨rfl, hw⟩
      subst hw
      rw [show decide (len ≤ 1048576) = true by simpa using h0]
      go_wp2_with fail
      go_ret
      exact ⟨rfl, Below.refl _ _⟩
    · by_cases h2 : n < 0
      · go_enter Try.func7, Try.ntmps7
        go_wp2_with fail
        refine (zzBytes20 a n len cap hl w).mono ?_
        rintro e w' ⟨rfl, hw⟩
        subst hw
        rw [show decide (len ≤ 1048576) = true by simpa using h0]
        go_wp2_with fail
        go_ret
        exact ⟨rfl, Below.refl _ _⟩
      · have h3 : 65536 < n := by omega
        go_enter Try.func7, Try.ntmps7
        go_wp2_with fail
        refine (zzBytes20 a n len cap hl w).mono ?_
        rintro e w' ⟨rfl, hw⟩
        subst hw
        rw [show decide (len ≤ 1048576) = true by simpa using h0]
        go_wp2_with fail
        go_ret
        exact ⟨rfl, Below.refl _ _⟩
  · go_enter Try.func7, Try.ntmps7
    go_wp2_with fail
    refine (zzBytes20 a n len cap hl w).mono ?_
    rintro e w' ⟨rfl, hw⟩
    subst hw
    rw [show decide (len ≤ 1048576) = false by simpa using h0]
    go_wp2_with fail
    go_ret
    exact ⟨rfl, Below.refl _ _⟩

theorem trans_any {e0 e1 : Nat → Int} {w : World} {a : Option Addr} {m cap b off : Nat} (n : Int) (H : IsEnds w a m cap b off e0 e1) (hnil : a = none → m = 0) (hl : m ≤ maxLen) :
    Calls Try.prog 7 #[.int .i64 n, .slice a m cap] w fun e w' => e = .returned (.bool true) ∧ Below w.heap.size w w' := by
  by_cases h : 65536 < m ∨ n < 0 ∨ 65536 < n
  · exact trans_true a n m cap hl w h
  · obtain ⟨N, rfl⟩ : ∃ N : Nat, n = N := ⟨n.toNat, by omega⟩
    exact trans0 H hnil (by omega) (by omega)
end Go.Proofs.Qxb6000582a
