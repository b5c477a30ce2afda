import Derived.Test.Qxb6000582aRow
namespace Go.Proofs.Qxb6000582a
open Go.RowKit

/-- Strictly ascending. -/
def Asc (zs : List Int) : Prop := ∀ i j, i < j → j < zs.length → zs.getD i 0 < zs.getD j 0

set_option maxHeartbeats 1000000 in
theorem ascending_any {w : World} {a : Option Addr} {len cap b off : Nat} {zs : List Int} (H : IsInts w a len cap b off zs) (hA : Asc zs) (hl : len ≤ 100000) :
    Calls Try.prog 18 #[.slice a len cap] w fun e w' => e = .returned (.bool true) ∧ ∃ n, w' = w.drewN n := by
  have HH : Hid (IsInts w a len cap b off zs) := H
  have HA : Hid (Asc zs) := hA
  clear H hA
  go_enter Try.func18, Try.ntmps18
  go_wp2_with fail
  go_loopw [3] (fun i wr => ∃ k : Nat, k ≤ len ∧ i = .int .i64 ((k : Int) + 1) ∧ ∃ n, wr = w.drewN n) (fun i _ => len + 1 - (intOf i).toNat)
  case atStart => exact ⟨0, Nat.zero_le _, rfl, 0, rfl⟩
  case round =>
    obtain ⟨k, hk, rfl, n, rfl⟩ := hrel
    by_cases hlt : k + 1 < len
    · have i1 := HH.out.ix k (by omega)
      have i2 := HH.out.ix (k + 1) hlt
      have c1 := HH.out.cell k (by omega)
      have c2 := HH.out.cell (k + 1) hlt
      have hlt2 := HA.out k (k + 1) (by omega) (by rw [HH.out.length]; exact hlt)
      rw [Int.natCast_succ] at i2
      generalize zs.getD k 0 = x at *
      generalize zs.getD (k + 1) 0 = y at *
      go_wp2_with fail
      go_quiet (fail)
      go_wp2_with fail
      go_roundw
      case rel => exact ⟨k + 1, by omega, by go_num, n + nq, by first | rfl | simp [World.drewN, Nat.add_assoc]⟩
      case measure => simp [intOf]; omega
    · go_wp2_with fail
      go_ret
      exact ⟨rfl, n, rfl⟩

set_option maxHeartbeats 1000000 in
theorem search_any {w : World} {a : Option Addr} {len cap b off : Nat} {zs : List Int} (H : IsInts w a len cap b off zs) (hA : Asc zs) (hl : len ≤ 100000) {x : Int} {j0 : Nat} (hj0 : j0 < len) (hx : zs.getD j0 0 = x) :
    Calls Try.prog 19 #[.slice a len cap, .int .i64 x] w fun e w' => e = .returned (.int .i64 j0) ∧ w' = w := by
  have HH : Hid (IsInts w a len cap b off zs) := H
  have HA : Hid (Asc zs) := hA
  have HX : Hid (zs.getD j0 0 = x) := hx
  have HL : Hid (zs.length = len) := H.length
  clear H hA hx
  go_enter Try.func19, Try.ntmps19
  go_wp2_with fail
  go_loop [5, 6] (fun lo hi => ∃ l d : Nat, l ≤ j0 ∧ j0 ≤ l + d ∧ l + d ≤ len ∧ lo = .int .i64 l ∧ hi = .int .i64 ((l : Int) + (d : Int))) (fun lo hi => (intOf hi - intOf lo).toNat)
  case atStart => exact ⟨0, len, by omega, by omega, by omega, rfl, by simp⟩
  case round =>
    obtain ⟨l, d, h1, h2, h3, rfl, rfl⟩ := hrel
    by_cases hd : 0 < d
    · have i1 := HH.out.ix (l + d / 2) (by omega)
      have c1 := HH.out.cell (l + d / 2) (by omega)
      have em : ((l + d / 2 : Nat) : Int) = (l : Int) + ((l : Int) + (d : Int) - (l : Int)) / 2 := by omega
      rw [em] at i1
      have EM : Hid (((l + d / 2 : Nat) : Int) = (l : Int) + ((l : Int) + (d : Int) - (l : Int)) / 2) := em
      clear em
      by_cases hm : l + d / 2 < j0
      · have hlt : zs.getD (l + d / 2) 0 < x := by rw [← HX.out]; exact HA.out _ _ hm (by rw [HL.out]; exact hj0)
        generalize zs.getD (l + d / 2) 0 = y at *
        go_wp2_with fail
        go_round
        case rel => exact ⟨l + d / 2 + 1, d - d / 2 - 1, by omega, by omega, by omega, by rw [← EM.out]; go_num, by congr 1; omega⟩
        case measure => simp [intOf]; omega
      · have hge : ¬ zs.getD (l + d / 2) 0 < x := by
          rcases Nat.lt_or_ge j0 (l + d / 2) with h | h
          · have := HA.out j0 (l + d / 2) h (by rw [HL.out]; omega)
            rw [HX.out] at this; omega
          · rw [show l + d / 2 = j0 by omega, HX.out]; omega
        generalize zs.getD (l + d / 2) 0 = y at *
        go_wp2_with fail
        go_round
        case rel => exact ⟨l, d / 2, by omega, by omega, by omega, rfl, by congr 1; omega⟩
        case measure => simp [intOf]; omega
    · obtain rfl : d = 0 := by omega
      obtain rfl : l = j0 := by omega
      have i1 := HH.out.ix l (by omega)
      have c1 := HH.out.cell l (by omega)
      rw [HX.out] at c1
      go_wp2_with fail
      go_ret
      exact ⟨rfl, rfl⟩
end Go.Proofs.Qxb6000582a
