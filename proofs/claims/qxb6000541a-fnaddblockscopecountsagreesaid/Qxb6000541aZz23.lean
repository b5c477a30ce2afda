import Derived.Test.Qxb6000541aSmall
namespace Go.Proofs.Qxb6000541a
open Go.RowKit

set_option maxHeartbeats 4000000 in
set_option maxRecDepth 100000 in
theorem zzBytes23 {w : World} {a1 a2 a3 a4 a5 : Option Addr} {len1 cap1 b1 off1 len2 cap2 b2 off2 len3 cap3 b3 off3 len4 cap4 b4 off4 len5 cap5 b5 off5 : Nat} {s1 s2 s3 s5 : List ByteArray} {z4 : List Int}
    (H1 : IsStrs w a1 len1 cap1 b1 off1 s1) (H2 : IsStrs w a2 len2 cap2 b2 off2 s2) (H3 : IsStrs w a3 len3 cap3 b3 off3 s3) (H4 : IsInts w a4 len4 cap4 b4 off4 z4) (H5 : IsStrs w a5 len5 cap5 b5 off5 s5) :
    Calls Try.prog 23 #[.slice a1 len1 cap1, .slice a2 len2 cap2, .slice a3 len3 cap3, .slice a4 len4 cap4, .slice a5 len5 cap5] w fun e w' => SomeBool e ∧ w' = w := by
  have HH : Hid (IsStrs w a1 len1 cap1 b1 off1 s1 ∧ IsStrs w a2 len2 cap2 b2 off2 s2 ∧ IsStrs w a3 len3 cap3 b3 off3 s3 ∧ IsStrs w a5 len5 cap5 b5 off5 s5) := ⟨H1, H2, H3, H5⟩
  have n1 := H1.le
  have n2 := H2.le
  have n3 := H3.le
  have n4 := H4.le
  have n5 := H5.le
  unfold maxLen at n1 n2 n3 n4 n5
  clear H1 H2 H3 H4 H5
  go_enter Try.func23, Try.ntmps23
  go_wp2
  · go_ret
    exact ⟨⟨_, rfl⟩, rfl⟩
  go_loop [11, 12] (fun t i => ∃ k : Nat, k ≤ len1 ∧ i = .int .i64 k ∧ ∃ z : Int, 0 ≤ z ∧ z ≤ 1048576 ∧ t = .int .i64 z) (fun _ i => len1 - (intOf i).toNat)
  case atStart => exact ⟨0, Nat.zero_le _, rfl, _, by omega, by omega, rfl⟩
  case round =>
    obtain ⟨k1, hk1, rfl, y1, hy0, hy1, rfl⟩ := hrel
    by_cases hlt1 : k1 < len1
    · have hix' := HH.out.1.ix k1 hlt1
      have hc' := HH.out.1.cell k1 hlt1
      have hs' : (s1.getD k1 ByteArray.empty).size ≤ 9223372036854775807 := HH.out.1.small k1
      generalize s1.getD k1 ByteArray.empty = s at *
      go_wp2
      · go_ret
        exact ⟨⟨_, rfl⟩, rfl⟩
      · go_ret
        exact ⟨⟨_, rfl⟩, rfl⟩
      · go_round
        case rel => exact ⟨k1 + 1, by omega, by go_num, _, by omega, by omega, rfl⟩
        case measure => simp [intOf]; omega
    · go_wp2
      · go_ret
        exact ⟨⟨_, rfl⟩, rfl⟩
      · go_ret
        exact ⟨⟨_, rfl⟩, rfl⟩
      go_loop [11, 13] (fun t i => ∃ k : Nat, k ≤ len2 ∧ i = .int .i64 k ∧ ∃ z : Int, 0 ≤ z ∧ z ≤ 1048576 ∧ t = .int .i64 z) (fun _ i => len2 - (intOf i).toNat)
      case atStart => exact ⟨0, Nat.zero_le _, rfl, _, by omega, by omega, rfl⟩
      case round =>
        obtain ⟨k2, hk2, rfl, y2, hy0, hy1, rfl⟩ := hrel
        by_cases hlt2 : k2 < len2
        · have hix' := HH.out.2.1.ix k2 hlt2
          have hc' := HH.out.2.1.cell k2 hlt2
          have hs' : (s2.getD k2 ByteArray.empty).size ≤ 9223372036854775807 := HH.out.2.1.small k2
          generalize s2.getD k2 ByteArray.empty = s at *
          go_wp2
          · go_ret
            exact ⟨⟨_, rfl⟩, rfl⟩
          · go_ret
            exact ⟨⟨_, rfl⟩, rfl⟩
          · go_round
            case rel => exact ⟨k2 + 1, by omega, by go_num, _, by omega, by omega, rfl⟩
            case measure => simp [intOf]; omega
        · go_wp2
          · go_ret
            exact ⟨⟨_, rfl⟩, rfl⟩
          · go_ret
            exact ⟨⟨_, rfl⟩, rfl⟩
          go_loop [11, 14] (fun t i => ∃ k : Nat, k ≤ len3 ∧ i = .int .i64 k ∧ ∃ z : Int, 0 ≤ z ∧ z ≤ 1048576 ∧ t = .int .i64 z) (fun _ i => len3 - (intOf i).toNat)
          case atStart => exact ⟨0, Nat.zero_le _, rfl, _, by omega, by omega, rfl⟩
          case round =>
            obtain ⟨k3, hk3, rfl, y3, hy0, hy1, rfl⟩ := hrel
            by_cases hlt3 : k3 < len3
            · have hix' := HH.out.2.2.1.ix k3 hlt3
              have hc' := HH.out.2.2.1.cell k3 hlt3
              have hs' : (s3.getD k3 ByteArray.empty).size ≤ 9223372036854775807 := HH.out.2.2.1.small k3
              generalize s3.getD k3 ByteArray.empty = s at *
              go_wp2
              · go_ret
                exact ⟨⟨_, rfl⟩, rfl⟩
              · go_ret
                exact ⟨⟨_, rfl⟩, rfl⟩
              · go_round
                case rel => exact ⟨k3 + 1, by omega, by go_num, _, by omega, by omega, rfl⟩
                case measure => simp [intOf]; omega
            · go_wp2
              · go_ret
                exact ⟨⟨_, rfl⟩, rfl⟩
              · go_ret
                exact ⟨⟨_, rfl⟩, rfl⟩
              · go_ret
                exact ⟨⟨_, rfl⟩, rfl⟩
              · go_ret
                exact ⟨⟨_, rfl⟩, rfl⟩
              go_loop [11, 15] (fun t i => ∃ k : Nat, k ≤ len5 ∧ i = .int .i64 k ∧ ∃ z : Int, 0 ≤ z ∧ z ≤ 1048576 ∧ t = .int .i64 z) (fun _ i => len5 - (intOf i).toNat)
              case atStart => exact ⟨0, Nat.zero_le _, rfl, _, by omega, by omega, rfl⟩
              case round =>
                obtain ⟨k5, hk5, rfl, y5, hy0, hy1, rfl⟩ := hrel
                by_cases hlt5 : k5 < len5
                · have hix' := HH.out.2.2.2.ix k5 hlt5
                  have hc' := HH.out.2.2.2.cell k5 hlt5
                  have hs' : (s5.getD k5 ByteArray.empty).size ≤ 9223372036854775807 := HH.out.2.2.2.small k5
                  generalize s5.getD k5 ByteArray.empty = s at *
                  go_wp2
                  · go_ret
                    exact ⟨⟨_, rfl⟩, rfl⟩
                  · go_ret
                    exact ⟨⟨_, rfl⟩, rfl⟩
                  · go_round
                    case rel => exact ⟨k5 + 1, by omega, by go_num, _, by omega, by omega, rfl⟩
                    case measure => simp [intOf]; omega
                · go_wp2
                  go_ret
                  exact ⟨⟨_, rfl⟩, rfl⟩

end Go.Proofs.Qxb6000541a
