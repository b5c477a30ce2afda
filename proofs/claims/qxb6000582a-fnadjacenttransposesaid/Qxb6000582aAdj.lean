import Derived.Test.Qxb6000582aAdjMem
import Derived.Test.Qxb6000582aShelf
import Derived.BigRegion
namespace Go.Proofs.Qxb6000582a
open Go.RowKit Go.Sort

/-- What adjacent hands back: n lists, the v-th of them 'uniq (lst m v)'. -/
structure Lists (src : Nat → Nat) (dst : Nat → Int) (w w' : World) (n m ga gl : Nat) : Prop where
  lists : Row w' gl 37 n (lv src dst ga m)
  ints : ∀ v, v < n → IsInts w' (some ⟨ga, ofs src dst m v, none⟩) (uniq (lst src dst m v)).length (m - below src dst m v) ga (ofs src dst m v) (uniq (lst src dst m v))
  lt1 : w.heap.size ≤ ga
  lt2 : w.heap.size ≤ gl
  lta : ga < w'.heap.size
  bel : Below w.heap.size w w'

def Adjed (src : Nat → Nat) (dst : Nat → Int) (w : World) (n m : Nat) (e : Ending) (w' : World) : Prop :=
  ∃ ga gl, e = .returned (.slice (some ⟨gl, 0, none⟩) n n) ∧ Lists src dst w w' n m ga gl

theorem cell_new (wr : World) (x y : Value) : (wr.alloc (.cells #[x, y] 31)).cell? ⟨wr.heap.size, 0, none⟩ = some x := by
  simp only [World.cell?, heap_alloc_new]; rfl
theorem cell_new1 (wr : World) (x y : Value) : (wr.alloc (.cells #[x, y] 31)).cell? ⟨wr.heap.size, 1, none⟩ = some y := by
  simp only [World.cell?, heap_alloc_new]; rfl

set_option maxHeartbeats 4000000 in
set_option maxRecDepth 100000 in
theorem adjacent0 {src : Nat → Nat} {dst : Nat → Int} {w : World} {a : Option Addr} {n m cap b off : Nat} (H : IsEnds w a m cap b off (fun i => (src i : Int)) dst) (hsrc : ∀ i, i < m → src i < n) (hn : n ≤ 65536) (hm : m ≤ 65536) :
    Calls Try.prog 23 #[.int .i64 n, .slice a m cap, .int .i64 0] w fun e w' => Adjed src dst w n m e w' := by
  have HH : Hid (IsEnds w a m cap b off (fun i => (src i : Int)) dst) := H
  have HSRC : Hid (∀ i, i < m → src i < n) := hsrc
  clear H hsrc
  have hmk := make37 (n + 1) (by omega)
  rw [Int.natCast_succ] at hmk
  go_enter Try.func23, Try.ntmps23
  go_wp2_with fail
  have HS : Hid (A1 src dst w (w.alloc (.cells (madeCells #[.int .i64 0] (n + 1)) 3)) n 0) := A1.first w n
  clear hmk
  go_loopw [23] (fun i wr => ∃ k : Nat, k ≤ m ∧ i = .int .i64 k ∧ Hid (A1 src dst w wr n k)) (fun i _ => m - (intOf i).toNat)
  case atStart => exact ⟨0, Nat.zero_le _, rfl, HS⟩
  case round =>
    obtain ⟨k, hk, rfl, HR⟩ := hrel
    by_cases hlt : k < m
    · have i1 := HH.out.ix k hlt
      have hlow := HH.out.low (by omega)
      have c0 : wr.cell? ⟨b, off + 2 * k, none⟩ = some (.int .i64 (src k : Int)) := by rw [HR.out.bel.cell (p := ⟨b, off + 2 * k, none⟩) hlow]; exact HH.out.c0 k hlt
      have c1 : wr.cell? ⟨b, off + 2 * k + 1, none⟩ = some (.int .i64 (dst k)) := by rw [HR.out.bel.cell (p := ⟨b, off + 2 * k + 1, none⟩) hlow]; exact HH.out.c1 k hlt
      have hsk := HSRC.out k hlt
      obtain ⟨c, hc⟩ : ∃ c, (lst src dst k (src k)).length = c := ⟨_, rfl⟩
      have HST := fun o => (HR.out.alloc o).step hc
      have d0 : ∀ o, (wr.alloc o).cell? ⟨w.heap.size, src k + 1, none⟩ = some (.int .i64 (c : Int)) := fun o => by
        rw [← hc]; exact (HR.out.start.alloc o).cell (by omega)
      have f0 : ∀ o, (wr.alloc o).frozen? ⟨w.heap.size, src k + 1, none⟩ = false := fun o => (HR.out.start.alloc o).frozen _
      have i2 := index37 w.heap.size 0 (n + 1) (n + 1) (src k + 1) (by omega)
      rw [Int.natCast_succ, Nat.zero_add] at i2
      have hcb : c ≤ 65536 := by rw [← hc]; exact Nat.le_trans (lst_len_mono (Nat.le_of_lt hlt) _) (Nat.le_trans (Nat.le_trans (Nat.le_add_left _ _) (seg_le hsk)) hm)
      generalize src k = s at *
      go_wp2_with fail
      go_roundw
      case rel => exact ⟨k + 1, by omega, by go_num, HST _⟩
      case measure => simp [intOf]; omega
    · obtain rfl : k = m := by omega
      have HR2 : Hid (A2 src dst w wr n k 0) := HR.out.last
      clear HR HS
      go_wp2_with fail
      go_loopw [38] (fun i wr => ∃ v : Nat, v ≤ n ∧ i = .int .i64 v ∧ Hid (A2 src dst w wr n k v)) (fun i _ => n - (intOf i).toNat)
      case atStart => exact ⟨0, Nat.zero_le _, rfl, HR2⟩
      case round =>
        clear HR2
        obtain ⟨v, hv, rfl, HR⟩ := hrel
        by_cases hvn : v < n
        · obtain ⟨c, hc⟩ : ∃ c, (lst src dst k v).length = c := ⟨_, rfl⟩
          obtain ⟨d, hd⟩ : ∃ d, below src dst k v = d := ⟨_, rfl⟩
          have HST := HR.out.step hc hd
          have hcd : d + c ≤ 65536 := by have := seg_le (src := src) (dst := dst) (m := k) hvn; omega
          have d0 : wr.cell? ⟨w.heap.size, v, none⟩ = some (.int .i64 (d : Int)) := by
            rw [HR.out.start.cell (by omega), ← hd]; unfold iv st2; rw [if_pos (Nat.le_refl _)]
          have d1 : wr.cell? ⟨w.heap.size, v + 1, none⟩ = some (.int .i64 (c : Int)) := by
            rw [HR.out.start.cell (by omega), ← hc]; unfold iv st2; rw [if_neg (by omega)]; rfl
          have f1 := HR.out.start.frozen (v + 1)
          have i1 := index37 w.heap.size 0 (n + 1) (n + 1) v (by omega)
          have i2 := index37 w.heap.size 0 (n + 1) (n + 1) (v + 1) (by omega)
          rw [Nat.zero_add] at i1
          rw [Int.natCast_succ, Nat.zero_add] at i2
          go_wp2_with fail
          go_region
          go_wp2_with fail
          go_roundw
          case rel => exact ⟨v + 1, by omega, by go_num, HST.drew⟩
          case measure => simp [intOf]; omega
        · obtain rfl : v = n := by omega
          have HR3 : Hid (Row wr w.heap.size 3 (v + 1) (iv (below src dst k)) ∧ Below w.heap.size w wr) := ⟨HR.out.last, HR.out.bel⟩
          clear HR
          have hmk := make37 k (by omega)
          have hsl := slice37_to w.heap.size v
          have HC : Hid (∀ o, Calls Try.prog 25 #[.slice (some ⟨w.heap.size, 0, none⟩) v (v + 1)] (wr.alloc o) fun e w' => ∃ v', e = .returned v' ∧ w'.ownsRow (wr.alloc o).heap.size 3 1 v' v ((((List.range v).map (fun j => ((below src dst k j : Nat) : Int))).take v).map (Value.int .i64)) ∧ v' ≠ .slice none 0 0 ∧ Below (wr.alloc o).heap.size (wr.alloc o) w') :=
            fun o => Try.slices_Clone_int w.heap.size 0 v (v + 1) _ _ (by simp) (by omega) (fun j hj => by
              have hj' : j < v := by simpa using hj
              rw [Nat.zero_add, (HR3.out.1.alloc o).cell (by omega), List.getD_eq_getElem?_getD, List.getElem?_map, List.getElem?_range hj']
              rfl)
          go_wp2_with (go_at_call 25; refine (HC.out _).mono ?_; rintro e w3 ⟨v', rfl, hown, hnn, hb3⟩)
          obtain ⟨gf, fc, rfl, hA3⟩ := A3.first HR3.out hown hnn hb3
          have HR4 : Hid (A3 src dst w w3 v k 0 wr.heap.size gf (fun _ => 0)) := hA3
          obtain ⟨ga, hga⟩ : ∃ ga, wr.heap.size = ga := ⟨_, rfl⟩
          rw [hga] at HR4 ⊢
          clear hown hnn hb3 hA3 HC hmk hsl HR3 hga
          go_loopw [62] (fun i wr => ∃ j : Nat, j ≤ k ∧ i = .int .i64 j ∧ ∃ A, Hid (A3 src dst w wr v k j ga gf A)) (fun i _ => k - (intOf i).toNat)
          case atStart => exact ⟨0, Nat.zero_le _, rfl, _, HR4⟩
          case round =>
            clear HR4
            obtain ⟨j, hj, rfl, A, HR⟩ := hrel
            by_cases hjk : j < k
            · have i1 := HH.out.ix j hjk
              have hlow := HH.out.low (by omega)
              have c0 : wr.cell? ⟨b, off + 2 * j, none⟩ = some (.int .i64 (src j : Int)) := by rw [HR.out.bel.cell (p := ⟨b, off + 2 * j, none⟩) hlow]; exact HH.out.c0 j hjk
              have c1 : wr.cell? ⟨b, off + 2 * j + 1, none⟩ = some (.int .i64 (dst j)) := by rw [HR.out.bel.cell (p := ⟨b, off + 2 * j + 1, none⟩) hlow]; exact HH.out.c1 j hjk
              have hsj := HSRC.out j hjk
              obtain ⟨p, hp⟩ : ∃ p, below src dst k (src j) + (lst src dst j (src j)).length = p := ⟨_, rfl⟩
              obtain ⟨d, hd⟩ : ∃ d, dst j = d := ⟨_, rfl⟩
              have hpk : p < k := by
                have h1 := seg_le (src := src) (dst := dst) (m := k) hsj
                have h2 := lst_len_lt (src := src) (dst := dst) hjk (v := src j) rfl
                omega
              have HST : Hid (∀ o, A3 src dst w (((wr.alloc o).setCell ⟨ga, p, none⟩ (.int .i64 d)).setCell ⟨gf, src j, none⟩ (.int .i64 ((p : Int) + 1))) v k (j + 1) ga gf (upd A p d)) := fun o => (HR.out.alloc o).step hjk hp hd
              have g0 : ∀ o, (wr.alloc o).cell? ⟨gf, src j, none⟩ = some (.int .i64 (p : Int)) := fun o => by rw [← hp]; exact (HR.out.alloc o).fil.cell hsj
              have g1 : ∀ o, (wr.alloc o).cell? ⟨ga, p, none⟩ = some (.int .i64 (A p)) := fun o => (HR.out.alloc o).all.cell hpk
              have g2 : ∀ o, (wr.alloc o).frozen? ⟨ga, p, none⟩ = false := fun o => (HR.out.alloc o).all.frozen _
              have hne : ga ≠ gf := Nat.ne_of_lt HR.out.lt2
              have g3 : ∀ o u, ((wr.alloc o).setCell ⟨ga, p, none⟩ u).cell? ⟨gf, src j, none⟩ = some (.int .i64 (p : Int)) := fun o u => by rw [← hp]; exact ((HR.out.alloc o).fil.other hne u).cell hsj
              have g4 : ∀ o u, ((wr.alloc o).setCell ⟨ga, p, none⟩ u).frozen? ⟨gf, src j, none⟩ = false := fun o u => ((HR.out.alloc o).fil.other hne u).frozen _
              have g5 : ∀ x y u, ((wr.alloc (.cells #[x, y] 31)).setCell ⟨ga, p, none⟩ u).cell? ⟨wr.heap.size, 0, none⟩ = some x := fun x y u => by
                rw [World.cell?_of_block (w := wr.alloc (.cells #[x, y] 31)) (Below.heap_setCell _ _ _ _ (by show wr.heap.size ≠ ga; have := HR.out.all.lt; omega))]
                exact cell_new wr x y
              have i2 := index37 ga 0 k k p hpk
              have i3 := index37 gf 0 v fc (src j) hsj
              rw [Nat.zero_add] at i2 i3
              generalize src j = s at *
              rw [hd] at c1
              clear hp hd hne HR
              go_wp2_with fail
              go_region
              clear g0 g1 g2 i2
              go_wp2_with fail
              go_roundw
              case rel => exact ⟨j + 1, by omega, by go_num, _, (HST.out _).drew⟩
              case measure => simp [intOf]; omega
            · obtain rfl : j = k := by omega
              have hmk := make33 v (by omega)
              have HR4 : Hid (A4 src dst w (wr.alloc (.cells (madeCells #[.slice none 0 0] v) 37)) v j 0 ga wr.heap.size A) := A4.first HR.out
              clear HR
              go_wp2_with fail
              obtain ⟨gl, hgl⟩ : ∃ gl, wr.heap.size = gl := ⟨_, rfl⟩
              rw [hgl] at HR4 ⊢
              clear hmk hgl
              go_loopw [90] (fun i wr => ∃ u : Nat, u ≤ v ∧ i = .int .i64 u ∧ ∃ A, Hid (A4 src dst w wr v j u ga gl A)) (fun i _ => v - (intOf i).toNat)
              case atStart => exact ⟨0, Nat.zero_le _, rfl, _, HR4⟩
              case round =>
                clear HR4
                obtain ⟨u, hu, rfl, A, HR⟩ := hrel
                by_cases huv : u < v
                · obtain ⟨l, hl⟩ : ∃ l, below src dst j u = l := ⟨_, rfl⟩
                  obtain ⟨c, hc⟩ : ∃ c, (lst src dst j u).length = c := ⟨_, rfl⟩
                  obtain ⟨o, ho⟩ : ∃ o, ofs src dst j u = o := ⟨_, rfl⟩
                  have hlc : l + c ≤ j := by have := seg_le (src := src) (dst := dst) (m := j) huv; omega
                  have d0 : wr.cell? ⟨w.heap.size, u, none⟩ = some (.int .i64 (l : Int)) := by rw [HR.out.start.cell (by omega), ← hl]; rfl
                  obtain ⟨h, hh⟩ : ∃ h, l + c = h := ⟨_, rfl⟩
                  have d1 : wr.cell? ⟨w.heap.size, u + 1, none⟩ = some (.int .i64 (h : Int)) := by rw [HR.out.start.cell (by omega), ← hh, ← hl, ← hc]; rfl
                  have i1 := index37 w.heap.size 0 (v + 1) (v + 1) u (by omega)
                  have i2 := index37 w.heap.size 0 (v + 1) (v + 1) (u + 1) (by omega)
                  rw [Nat.zero_add] at i1
                  rw [Int.natCast_succ, Nat.zero_add] at i2
                  have hsl := slice37 ga j l h (by omega) (by omega)
                  rw [show h - l = c by omega, show (if j = l then 0 else l) = o by rw [← ho, ← hl]; rfl] at hsl
                  have HSO : Hid (∀ q, Calls Try.prog 26 #[.slice (some ⟨ga, o, none⟩) c (j - l)] (wr.drewN q) fun e w' => e = .returned (.tuple #[]) ∧ ∃ nn os, w' = after5 src dst (wr.drewN q) j u ga nn os) := fun q => by
                    have := Try.slices_Sort_int ga (ofs src dst j u) (j - l) (lst src dst j u) (wr.drewN q) ((HR.out.drewN q).holds huv) (HR.out.drewN q).all.lt (by omega)
                    rw [hc, ho] at this
                    refine this.mono ?_
                    rintro e w' ⟨rfl, nn, os, rfl⟩
                    exact ⟨rfl, nn, os, by unfold after5; rw [ho]⟩
                  have HCO : Hid (∀ q nn os, Calls Try.prog 27 #[.slice (some ⟨ga, o, none⟩) c (j - l)] (after5 src dst (wr.drewN q) j u ga nn os) fun e w' => e = .returned (.slice (some ⟨ga, o, none⟩) (uniq (lst src dst j u)).length (j - l)) ∧ ∃ q2, w' = after6 src dst (wr.drewN q) j u ga nn q2 os) := fun q nn os => by
                    have := Try.slices_Compact_int ga (ofs src dst j u) (j - l) ((lst src dst j u).mergeSort fun x y => decide (x ≤ y)) (after5 src dst (wr.drewN q) j u ga nn os) ((HR.out.drewN q).holds5 huv nn os) (by rw [List.length_mergeSort]; omega) (by rw [List.length_mergeSort]; omega)
                    rw [List.length_mergeSort, hc, ho] at this
                    refine this.mono ?_
                    rintro e w' ⟨rfl, q2, rfl⟩
                    refine ⟨rfl, q2, ?_⟩
                    unfold after6 packed
                    rw [ho, List.length_mergeSort, hc]
                    rfl
                  have i3 := index33 gl 0 v v u huv
                  rw [Nat.zero_add] at i3
                  have HCELL : Hid (∀ q nn q2 os, (after6 src dst (wr.drewN q) j u ga nn q2 os).cell? ⟨gl, u, none⟩ = some (.slice none 0 0) ∧ (after6 src dst (wr.drewN q) j u ga nn q2 os).frozen? ⟨gl, u, none⟩ = false) := fun q nn q2 os => by
                    have := (HR.out.drewN q).row6 nn q2 os
                    exact ⟨by rw [this.cell huv, if_neg (Nat.lt_irrefl _)], this.frozen _⟩
                  have HST : Hid (∀ q nn q2 os, ∃ A', A4 src dst w ((after6 src dst (wr.drewN q) j u ga nn q2 os).setCell ⟨gl, u, none⟩ (.slice (some ⟨ga, o, none⟩) (uniq (lst src dst j u)).length (j - l))) v j (u + 1) ga gl A') := fun q nn q2 os => by
                    obtain ⟨A', h⟩ := (HR.out.drewN q).step huv nn q2 0 os
                    rw [after4_eq] at h
                    unfold lv at h
                    rw [ho, hl] at h
                    exact ⟨A', h⟩
                  clear hl hc ho hh hlc HR
                  go_wp2_with fail
                  go_quiet (fail)
                  clear d0 d1 i1 i2 hsl
                  go_wp2_with fail
                  refine (HSO.out nq).mono ?_
                  rintro e w5 ⟨rfl, nn, os, hw5⟩
                  have HW5 : Hid (w5 = after5 src dst (wr.drewN nq) j u ga nn os) := hw5
                  clear hw5
                  go_wp2_with fail
                  have HCO2 := HCO.out nq nn os
                  rw [← HW5.out] at HCO2
                  refine HCO2.mono ?_
                  rintro e w6 ⟨rfl, q2, hw6⟩
                  have HW6 : Hid (w6 = after6 src dst (wr.drewN nq) j u ga nn q2 os) := hw6
                  have c6 : w6.cell? ⟨gl, u, none⟩ = some (.slice none 0 0) := by rw [HW6.out]; exact (HCELL.out nq nn q2 os).1
                  have f6 : w6.frozen? ⟨gl, u, none⟩ = false := by rw [HW6.out]; exact (HCELL.out nq nn q2 os).2
                  clear hw6 HCO2 HW5
                  generalize hul : (uniq (lst src dst j u)).length = ul at *
                  have HUL : Hid ((uniq (lst src dst j u)).length = ul) := hul
                  clear hul
                  go_wp2_with fail
                  go_roundw
                  case rel =>
                    obtain ⟨A', hA'⟩ := HST.out nq nn q2 os
                    rw [← HW6.out] at hA'
                    exact ⟨u + 1, by omega, by go_num, A', hA'⟩
                  case measure => simp [intOf]; omega
                · obtain rfl : u = v := by omega
                  have HL := HR.out.last
                  have HF : Hid (Lists src dst w wr u j ga gl) := ⟨HL.1, HL.2, Nat.le_of_lt HR.out.lt1, by have := HR.out.lt1; have := HR.out.lt2; omega, HR.out.all.lt, HR.out.bel⟩
                  clear HL HR
                  go_wp2_with fail
                  go_ret
                  exact ⟨ga, gl, rfl, HF.out⟩
set_option maxHeartbeats 4000000 in
set_option maxRecDepth 100000 in
theorem adjacent1 {src : Nat → Nat} {dst : Nat → Int} {w : World} {a : Option Addr} {n m cap b off : Nat} (H : IsEnds w a m cap b off dst (fun i => (src i : Int))) (hsrc : ∀ i, i < m → src i < n) (hn : n ≤ 65536) (hm : m ≤ 65536) :
    Calls Try.prog 23 #[.int .i64 n, .slice a m cap, .int .i64 1] w fun e w' => Adjed src dst w n m e w' := by
  have HH : Hid (IsEnds w a m cap b off dst (fun i => (src i : Int))) := H
  have HSRC : Hid (∀ i, i < m → src i < n) := hsrc
  clear H hsrc
  have hmk := make37 (n + 1) (by omega)
  rw [Int.natCast_succ] at hmk
  go_enter Try.func23, Try.ntmps23
  go_wp2_with fail
  have HS : Hid (A1 src dst w (w.alloc (.cells (madeCells #[.int .i64 0] (n + 1)) 3)) n 0) := A1.first w n
  clear hmk
  go_loopw [23] (fun i wr => ∃ k : Nat, k ≤ m ∧ i = .int .i64 k ∧ Hid (A1 src dst w wr n k)) (fun i _ => m - (intOf i).toNat)
  case atStart => exact ⟨0, Nat.zero_le _, rfl, HS⟩
  case round =>
    obtain ⟨k, hk, rfl, HR⟩ := hrel
    by_cases hlt : k < m
    · have i1 := HH.out.ix k hlt
      have hlow := HH.out.low (by omega)
      have c0 : wr.cell? ⟨b, off + 2 * k, none⟩ = some (.int .i64 (dst k)) := by rw [HR.out.bel.cell (p := ⟨b, off + 2 * k, none⟩) hlow]; exact HH.out.c0 k hlt
      have c1 : wr.cell? ⟨b, off + 2 * k + 1, none⟩ = some (.int .i64 (src k : Int)) := by rw [HR.out.bel.cell (p := ⟨b, off + 2 * k + 1, none⟩) hlow]; exact HH.out.c1 k hlt
      have hsk := HSRC.out k hlt
      obtain ⟨c, hc⟩ : ∃ c, (lst src dst k (src k)).length = c := ⟨_, rfl⟩
      have HST := fun o => (HR.out.alloc o).step hc
      have d0 : ∀ o, (wr.alloc o).cell? ⟨w.heap.size, src k + 1, none⟩ = some (.int .i64 (c : Int)) := fun o => by
        rw [← hc]; exact (HR.out.start.alloc o).cell (by omega)
      have f0 : ∀ o, (wr.alloc o).frozen? ⟨w.heap.size, src k + 1, none⟩ = false := fun o => (HR.out.start.alloc o).frozen _
      have i2 := index37 w.heap.size 0 (n + 1) (n + 1) (src k + 1) (by omega)
      rw [Int.natCast_succ, Nat.zero_add] at i2
      have hcb : c ≤ 65536 := by rw [← hc]; exact Nat.le_trans (lst_len_mono (Nat.le_of_lt hlt) _) (Nat.le_trans (Nat.le_trans (Nat.le_add_left _ _) (seg_le hsk)) hm)
      generalize src k = s at *
      go_wp2_with fail
      go_roundw
      case rel => exact ⟨k + 1, by omega, by go_num, HST _⟩
      case measure => simp [intOf]; omega
    · obtain rfl : k = m := by omega
      have HR2 : Hid (A2 src dst w wr n k 0) := HR.out.last
      clear HR HS
      go_wp2_with fail
      go_loopw [38] (fun i wr => ∃ v : Nat, v ≤ n ∧ i = .int .i64 v ∧ Hid (A2 src dst w wr n k v)) (fun i _ => n - (intOf i).toNat)
      case atStart => exact ⟨0, Nat.zero_le _, rfl, HR2⟩
      case round =>
        clear HR2
        obtain ⟨v, hv, rfl, HR⟩ := hrel
        by_cases hvn : v < n
        · obtain ⟨c, hc⟩ : ∃ c, (lst src dst k v).length = c := ⟨_, rfl⟩
          obtain ⟨d, hd⟩ : ∃ d, below src dst k v = d := ⟨_, rfl⟩
          have HST := HR.out.step hc hd
          have hcd : d + c ≤ 65536 := by have := seg_le (src := src) (dst := dst) (m := k) hvn; omega
          have d0 : wr.cell? ⟨w.heap.size, v, none⟩ = some (.int .i64 (d : Int)) := by
            rw [HR.out.start.cell (by omega), ← hd]; unfold iv st2; rw [if_pos (Nat.le_refl _)]
          have d1 : wr.cell? ⟨w.heap.size, v + 1, none⟩ = some (.int .i64 (c : Int)) := by
            rw [HR.out.start.cell (by omega), ← hc]; unfold iv st2; rw [if_neg (by omega)]; rfl
          have f1 := HR.out.start.frozen (v + 1)
          have i1 := index37 w.heap.size 0 (n + 1) (n + 1) v (by omega)
          have i2 := index37 w.heap.size 0 (n + 1) (n + 1) (v + 1) (by omega)
          rw [Nat.zero_add] at i1
          rw [Int.natCast_succ, Nat.zero_add] at i2
          go_wp2_with fail
          go_region
          go_wp2_with fail
          go_roundw
          case rel => exact ⟨v + 1, by omega, by go_num, HST.drew⟩
          case measure => simp [intOf]; omega
        · obtain rfl : v = n := by omega
          have HR3 : Hid (Row wr w.heap.size 3 (v + 1) (iv (below src dst k)) ∧ Below w.heap.size w wr) := ⟨HR.out.last, HR.out.bel⟩
          clear HR
          have hmk := make37 k (by omega)
          have hsl := slice37_to w.heap.size v
          have HC : Hid (∀ o, Calls Try.prog 25 #[.slice (some ⟨w.heap.size, 0, none⟩) v (v + 1)] (wr.alloc o) fun e w' => ∃ v', e = .returned v' ∧ w'.ownsRow (wr.alloc o).heap.size 3 1 v' v ((((List.range v).map (fun j => ((below src dst k j : Nat) : Int))).take v).map (Value.int .i64)) ∧ v' ≠ .slice none 0 0 ∧ Below (wr.alloc o).heap.size (wr.alloc o) w') :=
            fun o => Try.slices_Clone_int w.heap.size 0 v (v + 1) _ _ (by simp) (by omega) (fun j hj => by
              have hj' : j < v := by simpa using hj
              rw [Nat.zero_add, (HR3.out.1.alloc o).cell (by omega), List.getD_eq_getElem?_getD, List.getElem?_map, List.getElem?_range hj']
              rfl)
          go_wp2_with (go_at_call 25; refine (HC.out _).mono ?_; rintro e w3 ⟨v', rfl, hown, hnn, hb3⟩)
          obtain ⟨gf, fc, rfl, hA3⟩ := A3.first HR3.out hown hnn hb3
          have HR4 : Hid (A3 src dst w w3 v k 0 wr.heap.size gf (fun _ => 0)) := hA3
          obtain ⟨ga, hga⟩ : ∃ ga, wr.heap.size = ga := ⟨_, rfl⟩
          rw [hga] at HR4 ⊢
          clear hown hnn hb3 hA3 HC hmk hsl HR3 hga
          go_loopw [62] (fun i wr => ∃ j : Nat, j ≤ k ∧ i = .int .i64 j ∧ ∃ A, Hid (A3 src dst w wr v k j ga gf A)) (fun i _ => k - (intOf i).toNat)
          case atStart => exact ⟨0, Nat.zero_le _, rfl, _, HR4⟩
          case round =>
            clear HR4
            obtain ⟨j, hj, rfl, A, HR⟩ := hrel
            by_cases hjk : j < k
            · have i1 := HH.out.ix j hjk
              have hlow := HH.out.low (by omega)
              have c0 : wr.cell? ⟨b, off + 2 * j, none⟩ = some (.int .i64 (dst j)) := by rw [HR.out.bel.cell (p := ⟨b, off + 2 * j, none⟩) hlow]; exact HH.out.c0 j hjk
              have c1 : wr.cell? ⟨b, off + 2 * j + 1, none⟩ = some (.int .i64 (src j : Int)) := by rw [HR.out.bel.cell (p := ⟨b, off + 2 * j + 1, none⟩) hlow]; exact HH.out.c1 j hjk
              have hsj := HSRC.out j hjk
              obtain ⟨p, hp⟩ : ∃ p, below src dst k (src j) + (lst src dst j (src j)).length = p := ⟨_, rfl⟩
              obtain ⟨d, hd⟩ : ∃ d, dst j = d := ⟨_, rfl⟩
              have hpk : p < k := by
                have h1 := seg_le (src := src) (dst := dst) (m := k) hsj
                have h2 := lst_len_lt (src := src) (dst := dst) hjk (v := src j) rfl
                omega
              have HST : Hid (∀ o, A3 src dst w (((wr.alloc o).setCell ⟨ga, p, none⟩ (.int .i64 d)).setCell ⟨gf, src j, none⟩ (.int .i64 ((p : Int) + 1))) v k (j + 1) ga gf (upd A p d)) := fun o => (HR.out.alloc o).step hjk hp hd
              have g0 : ∀ o, (wr.alloc o).cell? ⟨gf, src j, none⟩ = some (.int .i64 (p : Int)) := fun o => by rw [← hp]; exact (HR.out.alloc o).fil.cell hsj
              have g1 : ∀ o, (wr.alloc o).cell? ⟨ga, p, none⟩ = some (.int .i64 (A p)) := fun o => (HR.out.alloc o).all.cell hpk
              have g2 : ∀ o, (wr.alloc o).frozen? ⟨ga, p, none⟩ = false := fun o => (HR.out.alloc o).all.frozen _
              have hne : ga ≠ gf := Nat.ne_of_lt HR.out.lt2
              have g3 : ∀ o u, ((wr.alloc o).setCell ⟨ga, p, none⟩ u).cell? ⟨gf, src j, none⟩ = some (.int .i64 (p : Int)) := fun o u => by rw [← hp]; exact ((HR.out.alloc o).fil.other hne u).cell hsj
              have g4 : ∀ o u, ((wr.alloc o).setCell ⟨ga, p, none⟩ u).frozen? ⟨gf, src j, none⟩ = false := fun o u => ((HR.out.alloc o).fil.other hne u).frozen _
              have g5 : ∀ x y u, ((wr.alloc (.cells #[x, y] 31)).setCell ⟨ga, p, none⟩ u).cell? ⟨wr.heap.size, 1, none⟩ = some y := fun x y u => by
                rw [World.cell?_of_block (w := wr.alloc (.cells #[x, y] 31)) (Below.heap_setCell _ _ _ _ (by show wr.heap.size ≠ ga; have := HR.out.all.lt; omega))]
                exact cell_new1 wr x y
              have i2 := index37 ga 0 k k p hpk
              have i3 := index37 gf 0 v fc (src j) hsj
              rw [Nat.zero_add] at i2 i3
              generalize src j = s at *
              rw [hd] at c0
              clear hp hd hne HR
              go_wp2_with fail
              go_region
              clear g0 g1 g2 i2
              go_wp2_with fail
              go_roundw
              case rel => exact ⟨j + 1, by omega, by go_num, _, (HST.out _).drew⟩
              case measure => simp [intOf]; omega
            · obtain rfl : j = k := by omega
              have hmk := make33 v (by omega)
              have HR4 : Hid (A4 src dst w (wr.alloc (.cells (madeCells #[.slice none 0 0] v) 37)) v j 0 ga wr.heap.size A) := A4.first HR.out
              clear HR
              go_wp2_with fail
              obtain ⟨gl, hgl⟩ : ∃ gl, wr.heap.size = gl := ⟨_, rfl⟩
              rw [hgl] at HR4 ⊢
              clear hmk hgl
              go_loopw [90] (fun i wr => ∃ u : Nat, u ≤ v ∧ i = .int .i64 u ∧ ∃ A, Hid (A4 src dst w wr v j u ga gl A)) (fun i _ => v - (intOf i).toNat)
              case atStart => exact ⟨0, Nat.zero_le _, rfl, _, HR4⟩
              case round =>
                clear HR4
                obtain ⟨u, hu, rfl, A, HR⟩ := hrel
                by_cases huv : u < v
                · obtain ⟨l, hl⟩ : ∃ l, below src dst j u = l := ⟨_, rfl⟩
                  obtain ⟨c, hc⟩ : ∃ c, (lst src dst j u).length = c := ⟨_, rfl⟩
                  obtain ⟨o, ho⟩ : ∃ o, ofs src dst j u = o := ⟨_, rfl⟩
                  have hlc : l + c ≤ j := by have := seg_le (src := src) (dst := dst) (m := j) huv; omega
                  have d0 : wr.cell? ⟨w.heap.size, u, none⟩ = some (.int .i64 (l : Int)) := by rw [HR.out.start.cell (by omega), ← hl]; rfl
                  obtain ⟨h, hh⟩ : ∃ h, l + c = h := ⟨_, rfl⟩
                  have d1 : wr.cell? ⟨w.heap.size, u + 1, none⟩ = some (.int .i64 (h : Int)) := by rw [HR.out.start.cell (by omega), ← hh, ← hl, ← hc]; rfl
                  have i1 := index37 w.heap.size 0 (v + 1) (v + 1) u (by omega)
                  have i2 := index37 w.heap.size 0 (v + 1) (v + 1) (u + 1) (by omega)
                  rw [Nat.zero_add] at i1
                  rw [Int.natCast_succ, Nat.zero_add] at i2
                  have hsl := slice37 ga j l h (by omega) (by omega)
                  rw [show h - l = c by omega, show (if j = l then 0 else l) = o by rw [← ho, ← hl]; rfl] at hsl
                  have HSO : Hid (∀ q, Calls Try.prog 26 #[.slice (some ⟨ga, o, none⟩) c (j - l)] (wr.drewN q) fun e w' => e = .returned (.tuple #[]) ∧ ∃ nn os, w' = after5 src dst (wr.drewN q) j u ga nn os) := fun q => by
                    have := Try.slices_Sort_int ga (ofs src dst j u) (j - l) (lst src dst j u) (wr.drewN q) ((HR.out.drewN q).holds huv) (HR.out.drewN q).all.lt (by omega)
                    rw [hc, ho] at this
                    refine this.mono ?_
                    rintro e w' ⟨rfl, nn, os, rfl⟩
                    exact ⟨rfl, nn, os, by unfold after5; rw [ho]⟩
                  have HCO : Hid (∀ q nn os, Calls Try.prog 27 #[.slice (some ⟨ga, o, none⟩) c (j - l)] (after5 src dst (wr.drewN q) j u ga nn os) fun e w' => e = .returned (.slice (some ⟨ga, o, none⟩) (uniq (lst src dst j u)).length (j - l)) ∧ ∃ q2, w' = after6 src dst (wr.drewN q) j u ga nn q2 os) := fun q nn os => by
                    have := Try.slices_Compact_int ga (ofs src dst j u) (j - l) ((lst src dst j u).mergeSort fun x y => decide (x ≤ y)) (after5 src dst (wr.drewN q) j u ga nn os) ((HR.out.drewN q).holds5 huv nn os) (by rw [List.length_mergeSort]; omega) (by rw [List.length_mergeSort]; omega)
                    rw [List.length_mergeSort, hc, ho] at this
                    refine this.mono ?_
                    rintro e w' ⟨rfl, q2, rfl⟩
                    refine ⟨rfl, q2, ?_⟩
                    unfold after6 packed
                    rw [ho, List.length_mergeSort, hc]
                    rfl
                  have i3 := index33 gl 0 v v u huv
                  rw [Nat.zero_add] at i3
                  have HCELL : Hid (∀ q nn q2 os, (after6 src dst (wr.drewN q) j u ga nn q2 os).cell? ⟨gl, u, none⟩ = some (.slice none 0 0) ∧ (after6 src dst (wr.drewN q) j u ga nn q2 os).frozen? ⟨gl, u, none⟩ = false) := fun q nn q2 os => by
                    have := (HR.out.drewN q).row6 nn q2 os
                    exact ⟨by rw [this.cell huv, if_neg (Nat.lt_irrefl _)], this.frozen _⟩
                  have HST : Hid (∀ q nn q2 os, ∃ A', A4 src dst w ((after6 src dst (wr.drewN q) j u ga nn q2 os).setCell ⟨gl, u, none⟩ (.slice (some ⟨ga, o, none⟩) (uniq (lst src dst j u)).length (j - l))) v j (u + 1) ga gl A') := fun q nn q2 os => by
                    obtain ⟨A', h⟩ := (HR.out.drewN q).step huv nn q2 0 os
                    rw [after4_eq] at h
                    unfold lv at h
                    rw [ho, hl] at h
                    exact ⟨A', h⟩
                  clear hl hc ho hh hlc HR
                  go_wp2_with fail
                  go_quiet (fail)
                  clear d0 d1 i1 i2 hsl
                  go_wp2_with fail
                  refine (HSO.out nq).mono ?_
                  rintro e w5 ⟨rfl, nn, os, hw5⟩
                  have HW5 : Hid (w5 = after5 src dst (wr.drewN nq) j u ga nn os) := hw5
                  clear hw5
                  go_wp2_with fail
                  have HCO2 := HCO.out nq nn os
                  rw [← HW5.out] at HCO2
                  refine HCO2.mono ?_
                  rintro e w6 ⟨rfl, q2, hw6⟩
                  have HW6 : Hid (w6 = after6 src dst (wr.drewN nq) j u ga nn q2 os) := hw6
                  have c6 : w6.cell? ⟨gl, u, none⟩ = some (.slice none 0 0) := by rw [HW6.out]; exact (HCELL.out nq nn q2 os).1
                  have f6 : w6.frozen? ⟨gl, u, none⟩ = false := by rw [HW6.out]; exact (HCELL.out nq nn q2 os).2
                  clear hw6 HCO2 HW5
                  generalize hul : (uniq (lst src dst j u)).length = ul at *
                  have HUL : Hid ((uniq (lst src dst j u)).length = ul) := hul
                  clear hul
                  go_wp2_with fail
                  go_roundw
                  case rel =>
                    obtain ⟨A', hA'⟩ := HST.out nq nn q2 os
                    rw [← HW6.out] at hA'
                    exact ⟨u + 1, by omega, by go_num, A', hA'⟩
                  case measure => simp [intOf]; omega
                · obtain rfl : u = v := by omega
                  have HL := HR.out.last
                  have HF : Hid (Lists src dst w wr u j ga gl) := ⟨HL.1, HL.2, Nat.le_of_lt HR.out.lt1, by have := HR.out.lt1; have := HR.out.lt2; omega, HR.out.all.lt, HR.out.bel⟩
                  clear HL HR
                  go_wp2_with fail
                  go_ret
                  exact ⟨ga, gl, rfl, HF.out⟩

theorem zzAdjacent0 {src : Nat → Nat} {dst : Nat → Int} {w : World} {a : Option Addr} {n m cap b off : Nat} (H : IsEnds w a m cap b off (fun i => (src i : Int)) dst) (hsrc : ∀ i, i < m → src i < n) (hn : n ≤ 65536) (hm : m ≤ 65536) :
    Calls Try.prog 17 #[.int .i64 n, .slice a m cap, .int .i64 0] w fun e w' => Adjed src dst w n m e w' := by
  have HC : Hid (Calls Try.prog 23 #[.int .i64 n, .slice a m cap, .int .i64 0] w fun e w' => Adjed src dst w n m e w') := adjacent0 H hsrc hn hm
  clear H hsrc
  go_enter Try.func17, Try.ntmps17
  go_wp2_with fail
  refine HC.out.mono ?_
  rintro e w' ⟨ga, gl, rfl, hL⟩
  have HL : Hid (Lists src dst w w' n m ga gl) := hL
  clear hL HC
  go_wp2_with fail
  go_ret
  exact ⟨ga, gl, rfl, HL.out⟩

theorem zzAdjacent1 {src : Nat → Nat} {dst : Nat → Int} {w : World} {a : Option Addr} {n m cap b off : Nat} (H : IsEnds w a m cap b off dst (fun i => (src i : Int))) (hsrc : ∀ i, i < m → src i < n) (hn : n ≤ 65536) (hm : m ≤ 65536) :
    Calls Try.prog 17 #[.int .i64 n, .slice a m cap, .int .i64 1] w fun e w' => Adjed src dst w n m e w' := by
  have HC : Hid (Calls Try.prog 23 #[.int .i64 n, .slice a m cap, .int .i64 1] w fun e w' => Adjed src dst w n m e w') := adjacent1 H hsrc hn hm
  clear H hsrc
  go_enter Try.func17, Try.ntmps17
  go_wp2_with fail
  refine HC.out.mono ?_
  rintro e w' ⟨ga, gl, rfl, hL⟩
  have HL : Hid (Lists src dst w w' n m ga gl) := hL
  clear hL HC
  go_wp2_with fail
  go_ret
  exact ⟨ga, gl, rfl, HL.out⟩
end Go.Proofs.Qxb6000582a
