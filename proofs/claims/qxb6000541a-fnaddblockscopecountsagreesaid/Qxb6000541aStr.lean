import Derived.Test.Qxb6000541aRows
import Derived.WalkKit
import Derived.WalkLawsBesides
namespace Go.Proofs.Qxb6000541a
open Go.RowKit

/-- A slice of strings as the walks are told of it: its elements 'ss', where its cells lie (b, off), and what 'x[i]' comes to. -/
structure IsStrs (w : World) (a : Option Addr) (len cap b off : Nat) (ss : List ByteArray) : Prop where
  length : ss.length = len
  le : len ≤ maxLen
  small : ∀ i, (ss.getD i ByteArray.empty).size ≤ maxLen
  ix : ∀ i : Nat, i < len → ∀ w, (Instr.indexAt 22 (.slice a len cap) (.int .i64 i)).run Try.prog w = .ok (.pointer (some ⟨b, off + i, none⟩)) w
  cell : ∀ i, i < len → w.cell? ⟨b, off + i, none⟩ = some (.string (ss.getD i ByteArray.empty))
  low : 0 < len → b < w.heap.size

theorem IsStrs.below {w w' : World} {a : Option Addr} {len cap b off : Nat} {ss : List ByteArray} (h : IsStrs w a len cap b off ss) {B : Nat} (hb : Below B w w') (hB : w.heap.size ≤ B) : IsStrs w' a len cap b off ss :=
  ⟨h.length, h.le, h.small, h.ix, fun i hi => by rw [hb.cell (p := ⟨b, off + i, none⟩) (Nat.lt_of_lt_of_le (h.low (by omega)) hB)]; exact h.cell i hi, fun hi => Nat.lt_of_lt_of_le (h.low hi) hb.size⟩

theorem minInt_any (x y : Int) (w : World) : Calls Try.prog 10 #[.int .i64 x, .int .i64 y] w fun e w' => e = .returned (.int .i64 (if x < y then x else y)) ∧ w' = w := by
  by_cases h : x < y
  · go_enter Try.func10, Try.ntmps10
    go_wp2
    go_ret
    exact ⟨by simp, rfl⟩
  · go_enter Try.func10, Try.ntmps10
    go_wp2
    go_ret
    exact ⟨by simp, rfl⟩

theorem minInt_nat (x y : Nat) (w : World) : Calls Try.prog 10 #[.int .i64 x, .int .i64 y] w fun e w' => e = .returned (.int .i64 (min x y : Nat)) ∧ w' = w := by
  refine (minInt_any x y w).mono ?_
  rintro e w' ⟨rfl, rfl⟩
  refine ⟨?_, rfl⟩
  split
  · rw [Nat.min_eq_left (by omega)]
  · rw [Nat.min_eq_right (by omega)]

set_option maxHeartbeats 400000 in
theorem strBytes_any {w : World} {a : Option Addr} {len cap b off : Nat} {ss : List ByteArray} (H : IsStrs w a len cap b off ss) :
    Calls Try.prog 9 #[.slice a len cap] w fun e w' => (∃ t : Int, e = .returned (.int .i64 t) ∧ 0 ≤ t ∧ t ≤ 33554432) ∧ w' = w := by
  obtain ⟨hlen, hl, hs, hix, hc, _⟩ := H
  unfold maxLen at hl hs
  by_cases h1 : (1048576 : Int) < (len : Int)
  · go_enter Try.func9, Try.ntmps9
    go_wp2
    go_ret
    exact ⟨⟨_, rfl, by omega, by omega⟩, rfl⟩
  · go_enter Try.func9, Try.ntmps9
    go_wp2
    go_loop [3, 4] (fun t i => ∃ k : Nat, k ≤ len ∧ i = .int .i64 k ∧ ∃ z : Int, 0 ≤ z ∧ z ≤ 16777216 ∧ t = .int .i64 z) (fun _ i => len - (intOf i).toNat)
    case atStart => exact ⟨0, Nat.zero_le _, rfl, _, by omega, by omega, rfl⟩
    case round =>
      obtain ⟨k, hk, rfl, z, hz0, hz1, rfl⟩ := hrel
      by_cases hlt : k < len
      · have hix' := hix k hlt
        have hc' := hc k hlt
        have hs' := hs k
        clear hix hc hs
        generalize ss.getD k ByteArray.empty = s at *
        go_wp2
        · go_ret
          exact ⟨⟨_, rfl, by omega, by omega⟩, rfl⟩
        · go_ret
          exact ⟨⟨_, rfl, by omega, by omega⟩, rfl⟩
        · go_round
          case rel => exact ⟨k + 1, by omega, by go_num, _, by omega, by omega, rfl⟩
          case measure => simp [intOf]; omega
      · go_wp2
        go_ret
        exact ⟨⟨_, rfl, by omega, by omega⟩, rfl⟩

/-- The call hands back some bool. -/
def SomeBool (e : Ending) : Prop := ∃ t : Bool, e = .returned (.bool t)

set_option maxHeartbeats 1000000 in
theorem zzBytes15 {w : World} {a1 a2 : Option Addr} {len1 cap1 b1 off1 len2 cap2 b2 off2 : Nat} {s1 s2 : List ByteArray} (H1 : IsStrs w a1 len1 cap1 b1 off1 s1) (H2 : IsStrs w a2 len2 cap2 b2 off2 s2) :
    Calls Try.prog 15 #[.slice a1 len1 cap1, .slice a2 len2 cap2] w fun e w' => SomeBool e ∧ w' = w := by
  obtain ⟨_, hl, hs, hix, hc, _⟩ := H1
  obtain ⟨_, kl, ks, kix, kc, _⟩ := H2
  unfold maxLen at hl hs kl ks
  go_enter Try.func15, Try.ntmps15
  go_wp2
  · go_ret
    exact ⟨⟨_, rfl⟩, rfl⟩
  go_loop [5, 6] (fun t i => ∃ k : Nat, k ≤ len1 ∧ i = .int .i64 k ∧ ∃ z : Int, 0 ≤ z ∧ z ≤ 1048576 ∧ t = .int .i64 z) (fun _ i => len1 - (intOf i).toNat)
  case atStart => exact ⟨0, Nat.zero_le _, rfl, _, by omega, by omega, rfl⟩
  case round =>
    obtain ⟨k, hk, rfl, z, hz0, hz1, rfl⟩ := hrel
    by_cases hlt : k < len1
    · have hix' := hix k hlt
      have hc' := hc k hlt
      have hs' := hs k
      clear hix hc hs kix kc ks
      generalize s1.getD k ByteArray.empty = s at *
      go_wp2
      · go_ret
        exact ⟨⟨_, rfl⟩, rfl⟩
      · go_ret
        exact ⟨⟨_, rfl⟩, rfl⟩
      · go_round
        case rel => exact ⟨k + 1, by omega, by go_num, _, by omega, by omega, rfl⟩
        case measure => simp [intOf]; omega
    · clear hix hc hs
      go_wp2
      · go_ret
        exact ⟨⟨_, rfl⟩, rfl⟩
      · go_ret
        exact ⟨⟨_, rfl⟩, rfl⟩
      go_loop [5, 7] (fun t i => ∃ k : Nat, k ≤ len2 ∧ i = .int .i64 k ∧ ∃ z : Int, 0 ≤ z ∧ z ≤ 1048576 ∧ t = .int .i64 z) (fun _ i => len2 - (intOf i).toNat)
      case atStart => exact ⟨0, Nat.zero_le _, rfl, _, by omega, by omega, rfl⟩
      case round =>
        obtain ⟨j, hj, rfl, z, hz0, hz1, rfl⟩ := hrel
        by_cases hlt2 : j < len2
        · have hix' := kix j hlt2
          have hc' := kc j hlt2
          have hs' := ks j
          clear kix kc ks
          generalize s2.getD j ByteArray.empty = s at *
          go_wp2
          · go_ret
            exact ⟨⟨_, rfl⟩, rfl⟩
          · go_ret
            exact ⟨⟨_, rfl⟩, rfl⟩
          · go_round
            case rel => exact ⟨j + 1, by omega, by go_num, _, by omega, by omega, rfl⟩
            case measure => simp [intOf]; omega
        · clear kix kc ks
          go_wp2
          go_ret
          exact ⟨⟨_, rfl⟩, rfl⟩
set_option maxHeartbeats 1000000 in
theorem zzBytes8 {w : World} {a1 a2 : Option Addr} {len1 cap1 b1 off1 len2 cap2 b2 off2 : Nat} {s1 s2 : List ByteArray} (H1 : IsStrs w a1 len1 cap1 b1 off1 s1) (H2 : IsStrs w a2 len2 cap2 b2 off2 s2) :
    Calls Try.prog 8 #[.slice a1 len1 cap1, .slice a2 len2 cap2] w fun e w' => SomeBool e ∧ w' = w := by
  obtain ⟨_, hl, hs, hix, hc, _⟩ := H1
  obtain ⟨_, kl, ks, kix, kc, _⟩ := H2
  unfold maxLen at hl hs kl ks
  go_enter Try.func8, Try.ntmps8
  go_wp2
  · go_ret
    exact ⟨⟨_, rfl⟩, rfl⟩
  go_loop [5, 6] (fun t i => ∃ k : Nat, k ≤ len1 ∧ i = .int .i64 k ∧ ∃ z : Int, 0 ≤ z ∧ z ≤ 1048576 ∧ t = .int .i64 z) (fun _ i => len1 - (intOf i).toNat)
  case atStart => exact ⟨0, Nat.zero_le _, rfl, _, by omega, by omega, rfl⟩
  case round =>
    obtain ⟨k, hk, rfl, z, hz0, hz1, rfl⟩ := hrel
    by_cases hlt : k < len1
    · have hix' := hix k hlt
      have hc' := hc k hlt
      have hs' := hs k
      clear hix hc hs kix kc ks
      generalize s1.getD k ByteArray.empty = s at *
      go_wp2
      · go_ret
        exact ⟨⟨_, rfl⟩, rfl⟩
      · go_ret
        exact ⟨⟨_, rfl⟩, rfl⟩
      · go_round
        case rel => exact ⟨k + 1, by omega, by go_num, _, by omega, by omega, rfl⟩
        case measure => simp [intOf]; omega
    · clear hix hc hs
      go_wp2
      · go_ret
        exact ⟨⟨_, rfl⟩, rfl⟩
      · go_ret
        exact ⟨⟨_, rfl⟩, rfl⟩
      go_loop [5, 7] (fun t i => ∃ k : Nat, k ≤ len2 ∧ i = .int .i64 k ∧ ∃ z : Int, 0 ≤ z ∧ z ≤ 1048576 ∧ t = .int .i64 z) (fun _ i => len2 - (intOf i).toNat)
      case atStart => exact ⟨0, Nat.zero_le _, rfl, _, by omega, by omega, rfl⟩
      case round =>
        obtain ⟨j, hj, rfl, z, hz0, hz1, rfl⟩ := hrel
        by_cases hlt2 : j < len2
        · have hix' := kix j hlt2
          have hc' := kc j hlt2
          have hs' := ks j
          clear kix kc ks
          generalize s2.getD j ByteArray.empty = s at *
          go_wp2
          · go_ret
            exact ⟨⟨_, rfl⟩, rfl⟩
          · go_ret
            exact ⟨⟨_, rfl⟩, rfl⟩
          · go_round
            case rel => exact ⟨j + 1, by omega, by go_num, _, by omega, by omega, rfl⟩
            case measure => simp [intOf]; omega
        · clear kix kc ks
          go_wp2
          go_ret
          exact ⟨⟨_, rfl⟩, rfl⟩
end Go.Proofs.Qxb6000541a
