import Derived.Test.Qxb6000582aRows
import Derived.WalkKit
import Derived.WalkLawsBesides
import Derived.BigQuiet
namespace Go.Proofs.Qxb6000582a
open Go.RowKit

/-- One of the six bytes of ASCII white space. -/
def white (x : Nat) : Bool := x == 32 || x == 9 || x == 10 || x == 11 || x == 12 || x == 13

/-- The byte at place k is white space. -/
def wh (s : ByteArray) (k : Nat) : Bool := white (s.data.toList.getD k 0).toNat

theorem wh_eq (s : ByteArray) (k : Nat) (h : k < s.size) : white (s[k]'h).toNat = wh s k := by
  unfold wh
  have h2 : k < s.data.toList.length := by simpa using h
  rw [show s.data.toList.getD k 0 = s.data.toList[k] by rw [List.getD_eq_getElem?_getD, List.getElem?_eq_getElem h2]; rfl]
  rfl

set_option maxHeartbeats 400000 in
theorem partsNames_any (x : Nat) (w : World) : Calls Try.prog 24 #[.int .u8 x] w fun e w' => e = .returned (.bool (white x)) ∧ w' = w := by
  by_cases h1 : x = 32
  · subst h1
    go_enter Try.func24, Try.ntmps24
    go_wp2
    go_ret
    exact ⟨rfl, rfl⟩
  by_cases h2 : x = 9
  · subst h2
    go_enter Try.func24, Try.ntmps24
    go_wp2
    go_ret
    exact ⟨rfl, rfl⟩
  by_cases h3 : x = 10
  · subst h3
    go_enter Try.func24, Try.ntmps24
    go_wp2
    go_ret
    exact ⟨rfl, rfl⟩
  by_cases h4 : x = 11
  · subst h4
    go_enter Try.func24, Try.ntmps24
    go_wp2
    go_ret
    exact ⟨rfl, rfl⟩
  by_cases h5 : x = 12
  · subst h5
    go_enter Try.func24, Try.ntmps24
    go_wp2
    go_ret
    exact ⟨rfl, rfl⟩
  by_cases h6 : x = 13
  · subst h6
    go_enter Try.func24, Try.ntmps24
    go_wp2
    go_ret
    exact ⟨rfl, rfl⟩
  have hh : Hid (white x = false) := by unfold Hid white; simp [h1, h2, h3, h4, h5, h6]
  have t1 : ((x : Int) == 32) = false := by simp; omega
  have t2 : ((x : Int) == 9) = false := by simp; omega
  have t3 : ((x : Int) == 10) = false := by simp; omega
  have t4 : ((x : Int) == 11) = false := by simp; omega
  have t5 : ((x : Int) == 12) = false := by simp; omega
  have t6 : ((x : Int) == 13) = false := by simp; omega
  go_enter Try.func24, Try.ntmps24
  go_wp2
  go_ret
  exact ⟨by rw [hh.out]; rfl, rfl⟩

set_option maxHeartbeats 400000 in
theorem isWhite_any (x : Nat) (w : World) : Calls Try.prog 11 #[.int .u8 x] w fun e w' => e = .returned (.bool (white x)) ∧ w' = w := by
  by_cases h1 : x = 32
  · subst h1
    go_enter Try.func11, Try.ntmps11
    go_wp2
    go_ret
    exact ⟨rfl, rfl⟩
  by_cases h2 : x = 9
  · subst h2
    go_enter Try.func11, Try.ntmps11
    go_wp2
    go_ret
    exact ⟨rfl, rfl⟩
  by_cases h3 : x = 10
  · subst h3
    go_enter Try.func11, Try.ntmps11
    go_wp2
    go_ret
    exact ⟨rfl, rfl⟩
  by_cases h4 : x = 11
  · subst h4
    go_enter Try.func11, Try.ntmps11
    go_wp2
    go_ret
    exact ⟨rfl, rfl⟩
  by_cases h5 : x = 12
  · subst h5
    go_enter Try.func11, Try.ntmps11
    go_wp2
    go_ret
    exact ⟨rfl, rfl⟩
  by_cases h6 : x = 13
  · subst h6
    go_enter Try.func11, Try.ntmps11
    go_wp2
    go_ret
    exact ⟨rfl, rfl⟩
  have hh : Hid (white x = false) := by unfold Hid white; simp [h1, h2, h3, h4, h5, h6]
  have t1 : ((x : Int) == 32) = false := by simp; omega
  have t2 : ((x : Int) == 9) = false := by simp; omega
  have t3 : ((x : Int) == 10) = false := by simp; omega
  have t4 : ((x : Int) == 11) = false := by simp; omega
  have t5 : ((x : Int) == 12) = false := by simp; omega
  have t6 : ((x : Int) == 13) = false := by simp; omega
  go_enter Try.func11, Try.ntmps11
  go_wp2
  go_ret
  exact ⟨by rw [hh.out]; rfl, rfl⟩

/-- The name's place in s: it starts at st and ends ahead of en. -/
structure Parts (s : ByteArray) (st en : Nat) : Prop where
  le1 : st ≤ en
  le2 : en ≤ s.size
  lead : ∀ i, i < st → wh s i = true
  name : ∀ i, st ≤ i → i < en → wh s i = false
  stop : en < s.size → wh s en = true
  no : st = en → en = s.size

def NameIs (s : ByteArray) (e : Ending) : Prop := ∃ st en, Parts s st en ∧ e = .returned (.tuple #[.string (s.extract st en), .string (s.extract en s.size)])

set_option maxHeartbeats 2000000 in
theorem nextName_any (s : ByteArray) (hs : s.size ≤ maxLen) (w : World) : Calls Try.prog 22 #[.string s] w fun e w' => NameIs s e ∧ ∃ n, w' = w.drewN n := by
  unfold maxLen at hs
  go_enter Try.func22, Try.ntmps22
  go_wp2_with fail
  go_loop [4] (fun i => ∃ k : Nat, k ≤ s.size ∧ i = .int .i64 k ∧ Hid (∀ j, j < k → wh s j = true)) (fun i => s.size - (intOf i).toNat)
  case atStart => exact ⟨0, Nat.zero_le _, rfl, fun j hj => absurd hj (by omega)⟩
  case round =>
    obtain ⟨k, hk, rfl, hl⟩ := hrel
    by_cases hlt : k < s.size
    · go_wp2_with fail
      refine (partsNames_any _ _).mono ?_
      rintro e w' ⟨rfl, hw⟩
      subst hw
      rw [wh_eq s k hlt]
      cases hwk : wh s k
      · have hq : Hid (k < s.size → wh s k = false) := fun _ => hwk
        go_wp2_with fail
        go_loop [5] (fun i => ∃ m : Nat, k ≤ m ∧ m ≤ s.size ∧ i = .int .i64 m ∧ Hid (∀ j, k ≤ j → j < m → wh s j = false)) (fun i => s.size - (intOf i).toNat)
        case atStart => exact ⟨k, Nat.le_refl _, hk, rfl, fun j h1 h2 => absurd h1 (by omega)⟩
        case round =>
          obtain ⟨m, hkm, hm, rfl, hn⟩ := hrel
          by_cases hlm : m < s.size
          · go_wp2_with fail
            refine (partsNames_any _ _).mono ?_
            rintro e w' ⟨rfl, hw⟩
            subst hw
            rw [wh_eq s m hlm]
            cases hwm : wh s m
            · go_wp2_with fail
              go_round
              case rel =>
                refine ⟨m + 1, by omega, by omega, by go_num, ?_⟩
                intro j h1 h2
                by_cases hjm : j = m
                · rw [hjm]; exact hwm
                · exact hn.out j h1 (by omega)
              case measure => simp [intOf]; omega
            · go_wp2_with fail
              have hst : m < s.size → wh s m = true := fun _ => hwm
              have hno : k = m → m = s.size := fun h => by have := hq.out (by omega); rw [h, hwm] at this; cases this
              have r1 := fun wx : World => run_slice_string (P := Try.prog) wx 9 s .i64 .i64 (k : Int) (m : Int) Try.underlying9 (by omega) (by omega) (by omega)
              have r2 := fun wx : World => run_slice_string_l (P := Try.prog) wx 9 s Try.underlying9 .i64 (m : Int) (by omega) (by omega)
              simp only [Int.toNat_natCast] at r1 r2
              go_quiet (fail)
              go_wp2
              exact bodyPost_ret (v := .tuple #[.string (s.extract k m), .string (s.extract m s.size)]) (by simp [results, Try.results22, go_sem]) rfl ⟨⟨k, m, ⟨hkm, hm, hl.out, hn.out, hst, hno⟩, rfl⟩, _, rfl⟩
          · go_wp2_with fail
            have hst : m < s.size → wh s m = true := fun h => absurd h hlm
            have hno : k = m → m = s.size := fun h => by omega
            have r1 := fun wx : World => run_slice_string (P := Try.prog) wx 9 s .i64 .i64 (k : Int) (m : Int) Try.underlying9 (by omega) (by omega) (by omega)
            have r2 := fun wx : World => run_slice_string_l (P := Try.prog) wx 9 s Try.underlying9 .i64 (m : Int) (by omega) (by omega)
            simp only [Int.toNat_natCast] at r1 r2
            go_quiet (fail)
            go_wp2
            exact bodyPost_ret (v := .tuple #[.string (s.extract k m), .string (s.extract m s.size)]) (by simp [results, Try.results22, go_sem]) rfl ⟨⟨k, m, ⟨hkm, hm, hl.out, hn.out, hst, hno⟩, rfl⟩, _, rfl⟩
      · go_wp2_with fail
        go_round
        case rel =>
          refine ⟨k + 1, by omega, by go_num, ?_⟩
          intro j hj
          by_cases hjk : j = k
          · rw [hjk]; exact hwk
          · exact hl.out j (by omega)
        case measure => simp [intOf]; omega
    · have hq : Hid (k < s.size → wh s k = false) := fun h => absurd h hlt
      go_wp2_with fail
      go_loop [5] (fun i => ∃ m : Nat, k ≤ m ∧ m ≤ s.size ∧ i = .int .i64 m ∧ Hid (∀ j, k ≤ j → j < m → wh s j = false)) (fun i => s.size - (intOf i).toNat)
      case atStart => exact ⟨k, Nat.le_refl _, hk, rfl, fun j h1 h2 => absurd h1 (by omega)⟩
      case round =>
        obtain ⟨m, hkm, hm, rfl, hn⟩ := hrel
        by_cases hlm : m < s.size
        · go_wp2_with fail
          refine (partsNames_any _ _).mono ?_
          rintro e w' ⟨rfl, hw⟩
          subst hw
          rw [wh_eq s m hlm]
          cases hwm : wh s m
          · go_wp2_with fail
            go_round
            case rel =>
              refine ⟨m + 1, by omega, by omega, by go_num, ?_⟩
              intro j h1 h2
              by_cases hjm : j = m
              · rw [hjm]; exact hwm
              · exact hn.out j h1 (by omega)
            case measure => simp [intOf]; omega
          · go_wp2_with fail
            have hst : m < s.size → wh s m = true := fun _ => hwm
            have hno : k = m → m = s.size := fun h => by have := hq.out (by omega); rw [h, hwm] at this; cases this
            have r1 := fun wx : World => run_slice_string (P := Try.prog) wx 9 s .i64 .i64 (k : Int) (m : Int) Try.underlying9 (by omega) (by omega) (by omega)
            have r2 := fun wx : World => run_slice_string_l (P := Try.prog) wx 9 s Try.underlying9 .i64 (m : Int) (by omega) (by omega)
            simp only [Int.toNat_natCast] at r1 r2
            go_quiet (fail)
            go_wp2
            exact bodyPost_ret (v := .tuple #[.string (s.extract k m), .string (s.extract m s.size)]) (by simp [results, Try.results22, go_sem]) rfl ⟨⟨k, m, ⟨hkm, hm, hl.out, hn.out, hst, hno⟩, rfl⟩, _, rfl⟩
        · go_wp2_with fail
          have hst : m < s.size → wh s m = true := fun h => absurd h hlm
          have hno : k = m → m = s.size := fun h => by omega
          have r1 := fun wx : World => run_slice_string (P := Try.prog) wx 9 s .i64 .i64 (k : Int) (m : Int) Try.underlying9 (by omega) (by omega) (by omega)
          have r2 := fun wx : World => run_slice_string_l (P := Try.prog) wx 9 s Try.underlying9 .i64 (m : Int) (by omega) (by omega)
          simp only [Int.toNat_natCast] at r1 r2
          go_quiet (fail)
          go_wp2
          exact bodyPost_ret (v := .tuple #[.string (s.extract k m), .string (s.extract m s.size)]) (by simp [results, Try.results22, go_sem]) rfl ⟨⟨k, m, ⟨hkm, hm, hl.out, hn.out, hst, hno⟩, rfl⟩, _, rfl⟩

theorem zzName (s : ByteArray) (hs : s.size ≤ maxLen) (w : World) : Calls Try.prog 10 #[.string s] w fun e w' => NameIs s e ∧ ∃ n, w' = w.drewN n := by
  go_enter Try.func10, Try.ntmps10
  go_wp2_with fail
  refine (nextName_any s hs w).mono ?_
  rintro e w' ⟨⟨st, en, hp, rfl⟩, n, hw⟩
  subst hw
  have HP : Hid (Parts s st en) := hp
  clear hp
  go_wp2
  exact bodyPost_ret (v := .tuple #[.string (s.extract st en), .string (s.extract en s.size)]) (by simp [results, Try.results10, go_sem]) rfl ⟨⟨st, en, HP.out, rfl⟩, _, rfl⟩

theorem zzBytes9 (s : ByteArray) (hs : s.size ≤ maxLen) (w : World) : Calls Try.prog 9 #[.string s] w fun e w' => e = .returned (.bool (decide (s.size ≤ 1048576))) ∧ w' = w := by
  unfold maxLen at hs
  by_cases h : s.size ≤ 1048576
  · have hh : Hid (decide (s.size ≤ 1048576) = true) := by unfold Hid; simpa using h
    go_enter Try.func9, Try.ntmps9
    go_wp2
    go_ret
    exact ⟨by rw [hh.out]; rfl, rfl⟩
  · have hh : Hid (decide (s.size ≤ 1048576) = false) := by unfold Hid; simpa using h
    go_enter Try.func9, Try.ntmps9
    go_wp2
    go_ret
    exact ⟨by rw [hh.out]; rfl, rfl⟩

theorem zzBytes12 (s : ByteArray) (hs : s.size ≤ maxLen) (w : World) : Calls Try.prog 12 #[.string s] w fun e w' => e = .returned (.bool (decide (s.size ≤ 1048576))) ∧ w' = w := by
  unfold maxLen at hs
  by_cases h : s.size ≤ 1048576
  · have hh : Hid (decide (s.size ≤ 1048576) = true) := by unfold Hid; simpa using h
    go_enter Try.func12, Try.ntmps12
    go_wp2
    go_ret
    exact ⟨by rw [hh.out]; rfl, rfl⟩
  · have hh : Hid (decide (s.size ≤ 1048576) = false) := by unfold Hid; simpa using h
    go_enter Try.func12, Try.ntmps12
    go_wp2
    go_ret
    exact ⟨by rw [hh.out]; rfl, rfl⟩
end Go.Proofs.Qxb6000582a
