import Derived.Test.Qxb6000582aName
namespace Go.Proofs.Qxb6000582a
open Go.RowKit

theorem toList_beq {a b : ByteArray} (h : a = b) : (a.toList == b.toList) = true := by rw [h]; simp

theorem size_extract (s : ByteArray) (i j : Nat) (h2 : j ≤ s.size) : (s.extract i j).size = j - i := by
  rw [ByteArray.size_extract, Nat.min_eq_left h2]

theorem wh_extract (s : ByteArray) (i j k : Nat) (h2 : j ≤ s.size) (h3 : i + k < j) : wh (s.extract i j) k = wh s (i + k) := by
  have h4 : k < (s.extract i j).size := by rw [size_extract s i j h2]; omega
  rw [← wh_eq _ k h4, ← wh_eq s (i + k) (by omega), ByteArray.getElem_extract]

theorem Grown.drewN {W w' : World} (h : Grown W w') (n : Nat) : Grown W (w'.drewN n) := by
  induction n with
  | zero => exact h
  | succ n ih => exact ih

set_option maxHeartbeats 2000000 in
theorem splits_walk (s : ByteArray) (hs : s.size ≤ maxLen) (w : World) :
    Calls Try.prog 3 #[.string s] w fun e w' => e = .returned (.bool true) ∧ Grown w w' := by
  go_enter Try.func3, Try.ntmps3
  go_wp2_with fail
  refine (zzBytes9 s hs w).mono ?_
  rintro e w' ⟨rfl, hw⟩
  subst hw
  by_cases hz : s.size ≤ 1048576
  · have hd : decide (s.size ≤ 1048576) = true := by simpa using hz
    rw [hd]
    clear hd
    go_wp2_with fail
    refine (zzName s hs _).mono ?_
    rintro e w' ⟨⟨st, en, hp, rfl⟩, n, hw⟩
    subst hw
    have hl1 := hp.le1
    have hl2 := hp.le2
    obtain ⟨q, rfl⟩ : ∃ q, en = st + q := ⟨en - st, by omega⟩
    obtain ⟨r, hr⟩ : ∃ r, s.size = st + q + r := ⟨s.size - (st + q), by omega⟩
    have sz1 := size_extract s st (st + q) hl2
    have sz2 := size_extract s (st + q) s.size (Nat.le_refl _)
    rw [show st + q - st = q by omega] at sz1
    rw [hr, show st + q + r - (st + q) = r by omega] at sz2
    have r1 := fun wx : World => run_slice_string (P := Try.prog) wx 9 s .i64 .i64 (st : Int) ((st : Int) + (q : Int)) Try.underlying9 (by omega) (by omega) (by omega)
    have r2 := fun wx : World => run_slice_string_l (P := Try.prog) wx 9 s Try.underlying9 .i64 ((st : Int) + (q : Int)) (by omega) (by omega)
    rw [show ((st : Int) + (q : Int)).toNat = st + q by omega] at r1 r2
    rw [hr] at r2 ⊢
    simp only [Int.toNat_natCast] at r1
    generalize hnm : s.extract st (st + q) = nm at *
    generalize hrs : s.extract (st + q) (st + q + r) = rs at *
    have q1 : (nm.toList == nm.toList) = true := by simp
    have q2 : (rs.toList == rs.toList) = true := by simp
    have HG : Hid (Grown w' (w'.drewN n)) := Grown.drewN (Grown.refl _) n
    have HP : Hid (Parts s st (st + q)) := hp
    have E1 : Hid (s.extract st (st + q) = nm) := hnm
    have E2 : Hid (s.extract (st + q) (st + q + r) = rs) := hrs
    clear hp hnm hrs
    go_wp2_with fail
    go_loop [7] (fun i => ∃ k : Nat, k ≤ st ∧ i = .int .i64 k) (fun i => st - (intOf i).toNat)
    case atStart => exact ⟨0, Nat.zero_le _, rfl⟩
    case round =>
      obtain ⟨k, hk, rfl⟩ := hrel
      by_cases hlt : k < st
      · have hks : k < s.size := by omega
        go_wp2_with fail
        refine (isWhite_any _ _).mono ?_
        rintro e w' ⟨rfl, hw⟩
        subst hw
        rw [wh_eq s k hks, HP.out.lead k hlt]
        go_wp2_with fail
        go_round
        case rel => exact ⟨k + 1, by omega, by go_num⟩
        case measure => simp [intOf]; omega
      · go_wp2_with fail
        go_loop [8] (fun i => ∃ k : Nat, k ≤ q ∧ i = .int .i64 k) (fun i => q - (intOf i).toNat)
        case atStart => exact ⟨0, Nat.zero_le _, rfl⟩
        case round =>
          obtain ⟨m, hm, rfl⟩ := hrel
          by_cases hlm : m < q
          · have hms : m < nm.size := by omega
            go_wp2_with fail
            refine (isWhite_any _ _).mono ?_
            rintro e w' ⟨rfl, hw⟩
            subst hw
            have hwm : wh nm m = false := by rw [← E1.out, wh_extract s st (st + q) m hl2 (by omega)]; exact HP.out.name (st + m) (by omega) (by omega)
            rw [wh_eq nm m hms, hwm]
            clear hwm
            go_wp2_with fail
            go_round
            case rel => exact ⟨m + 1, by omega, by go_num⟩
            case measure => simp [intOf]; omega
          · have hmq : m = q := by omega
            by_cases hq : q = 0
            · have hr0 : r = 0 := by have := HP.out.no (by omega); omega
              have t1 : nm.toList.isEmpty = true := by rw [ByteArray.toList_eq]; simp; apply Array.eq_empty_of_size_eq_zero; show nm.size = 0; omega
              have t2 : rs.toList.isEmpty = true := by rw [ByteArray.toList_eq]; simp; apply Array.eq_empty_of_size_eq_zero; show rs.size = 0; omega
              go_wp2
              go_ret
              exact ⟨rfl, HG.out⟩
            · have t1 : nm.toList.isEmpty = false := by rw [ByteArray.toList_eq]; simp; intro h; apply hq; rw [← sz1]; show nm.data.size = 0; rw [h]; rfl
              by_cases hr0 : r = 0
              · have t2 : rs.toList.isEmpty = true := by rw [ByteArray.toList_eq]; simp; apply Array.eq_empty_of_size_eq_zero; show rs.size = 0; omega
                go_wp2
                go_ret
                exact ⟨rfl, HG.out⟩
              · have t2 : rs.toList.isEmpty = false := by rw [ByteArray.toList_eq]; simp; intro h; apply hr0; rw [← sz2]; show rs.data.size = 0; rw [h]; rfl
                have h0s : 0 < rs.size := by omega
                go_wp2_with fail
                refine (isWhite_any _ _).mono ?_
                rintro e w' ⟨rfl, hw⟩
                subst hw
                have hwm : wh rs 0 = true := by rw [← E2.out, wh_extract s (st + q) (st + q + r) 0 (by omega) (by omega)]; exact HP.out.stop (by omega)
                rw [wh_eq rs 0 h0s, hwm]
                clear hwm
                go_wp2
                go_ret
                exact ⟨rfl, HG.out⟩
  · have hd : decide (s.size ≤ 1048576) = false := by simpa using hz
    rw [hd]
    clear hd
    go_wp2
    go_ret
    exact ⟨rfl, Grown.refl _⟩
end Go.Proofs.Qxb6000582a
