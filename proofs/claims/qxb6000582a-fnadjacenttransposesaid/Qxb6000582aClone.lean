import Derived.Test.Qxb6000582aRow
namespace Go.Proofs.Qxb6000582a
open Go.RowKit

/-- A slice of pairs as the walks are told of it. -/
structure IsEnds (w : World) (a : Option Addr) (len cap b off : Nat) (e0 e1 : Nat → Int) : Prop where
  ix : ∀ i : Nat, i < len → ∀ w, (Instr.indexAt 29 (.slice a len cap) (.int .i64 i)).run Try.prog w = .ok (.pointer (some ⟨b, off + 2 * i, none⟩)) w
  c0 : ∀ i, i < len → w.cell? ⟨b, off + 2 * i, none⟩ = some (.int .i64 (e0 i))
  c1 : ∀ i, i < len → w.cell? ⟨b, off + 2 * i + 1, none⟩ = some (.int .i64 (e1 i))
  low : 0 < len → b < w.heap.size

theorem IsEnds.of_block {w w' : World} {a : Option Addr} {len cap b off : Nat} {e0 e1 : Nat → Int} (h : IsEnds w a len cap b off e0 e1) (hb : 0 < len → w'.heap[b]? = w.heap[b]?) : IsEnds w' a len cap b off e0 e1 :=
  ⟨h.ix, fun i hi => by rw [World.cell?_of_block (w := w) (a := ⟨b, off + 2 * i, none⟩) (hb (by omega))]; exact h.c0 i hi,
    fun i hi => by rw [World.cell?_of_block (w := w) (a := ⟨b, off + 2 * i + 1, none⟩) (hb (by omega))]; exact h.c1 i hi,
    fun h0 => by
      have h1 := h.c0 0 h0
      have h2 := hb h0
      rcases Nat.lt_or_ge b w'.heap.size with h3 | h3
      · exact h3
      · rw [Array.getElem?_eq_none h3] at h2
        simp [World.cell?, ← h2] at h1⟩
theorem IsEnds.below {w w' : World} {a : Option Addr} {len cap b off : Nat} {e0 e1 : Nat → Int} (h : IsEnds w a len cap b off e0 e1) {B : Nat} (hb : Below B w w') (hB : w.heap.size ≤ B) : IsEnds w' a len cap b off e0 e1 :=
  h.of_block (fun h0 => hb.block b (Nat.lt_of_lt_of_le (h.low h0) hB))

theorem zzBytes15 (a : Option Addr) (n f : Int) (len cap : Nat) (hl : len ≤ maxLen) (w : World) : Calls Try.prog 15 #[.int .i64 n, .slice a len cap, .int .i64 f] w fun e w' => e = .returned (.bool (decide (len ≤ 1048576))) ∧ w' = w := by
  unfold maxLen at hl
  by_cases h : len ≤ 1048576
  · have hh : Hid (decide (len ≤ 1048576) = true) := by unfold Hid; simpa using h
    go_enter Try.func15, Try.ntmps15
    go_wp2
    go_ret
    exact ⟨by rw [hh.out]; rfl, rfl⟩
  · have hh : Hid (decide (len ≤ 1048576) = false) := by unfold Hid; simpa using h
    go_enter Try.func15, Try.ntmps15
    go_wp2
    go_ret
    exact ⟨by rw [hh.out]; rfl, rfl⟩
theorem zzBytes20 (a : Option Addr) (n : Int) (len cap : Nat) (hl : len ≤ maxLen) (w : World) : Calls Try.prog 20 #[.int .i64 n, .slice a len cap] w fun e w' => e = .returned (.bool (decide (len ≤ 1048576))) ∧ w' = w := by
  unfold maxLen at hl
  by_cases h : len ≤ 1048576
  · have hh : Hid (decide (len ≤ 1048576) = true) := by unfold Hid; simpa using h
    go_enter Try.func20, Try.ntmps20
    go_wp2
    go_ret
    exact ⟨by rw [hh.out]; rfl, rfl⟩
  · have hh : Hid (decide (len ≤ 1048576) = false) := by unfold Hid; simpa using h
    go_enter Try.func20, Try.ntmps20
    go_wp2
    go_ret
    exact ⟨by rw [hh.out]; rfl, rfl⟩

theorem info31 : (Try.prog.info? 31).map (fun i => (i.zero, i.size, i.bytes)) = some (some (.agg #[.int .i64 0, .int .i64 0]), 2, 16) := by kernel_rfl

/-- 'make([][2]int, n)'. -/
theorem make29 (n : Nat) (hn : n ≤ 100000) (w : World) : (Instr.makeSlice 29 (.int .i64 (n : Int)) (.int .i64 (n : Int))).run Try.prog w = .ok (.slice (some ⟨w.heap.size, 0, none⟩) n n) (w.alloc (.cells (madeCells #[.int .i64 0, .int .i64 0] (n * 2)) 31)) := by
  obtain ⟨i, hi, hzz⟩ := Option.map_eq_some_iff.1 info31
  simp only [Prod.mk.injEq] at hzz
  obtain ⟨hz, hs, hb⟩ := hzz
  have hr := run_make (P := Try.prog) w 29 31 i _ Try.underlying29 hi hz .i64 .i64 n n (by omega) (Int.le_refl _) (by rw [hb]; omega) (by omega)
  simp only [Int.toNat_natCast, hs] at hr
  exact hr

theorem Row.made2 (w : World) (n : Nat) (t : TypeId) : Row (w.alloc (.cells (madeCells #[.int .i64 0, .int .i64 0] n) t)) w.heap.size t n (fun _ => .int .i64 0) :=
  ⟨_, heap_alloc_new _ _, by rw [size_madeCells]; exact Nat.le_refl _, fun i hi => by
    simp [madeCells, hi]
    rcases Nat.mod_two_eq_zero_or_one i with h | h <;> rw [h] <;> rfl⟩

/-- The cells of k pairs copied. -/
def endCell (e0 e1 : Nat → Int) (k : Nat) : Nat → Value := fun j => if j < 2 * k then (if j % 2 = 0 then .int .i64 (e0 (j / 2)) else .int .i64 (e1 (j / 2))) else .int .i64 0

/-- What cloneEnds hands back: a slice of its own, or nil where nil came in. -/
def Cloned (w : World) (len : Nat) (e0 e1 : Nat → Int) (e : Ending) (w' : World) : Prop :=
  ∃ a cap b off, e = .returned (.slice a len cap) ∧ IsEnds w' a len cap b off e0 e1 ∧ (0 < len → w.heap.size ≤ b) ∧ Below w.heap.size w w'

set_option maxHeartbeats 2000000 in
theorem cloneEnds_some {w : World} {ad : Addr} {len cap b off : Nat} {e0 e1 : Nat → Int} (H : IsEnds w (some ad) len cap b off e0 e1) (hl : len ≤ 65536) :
    Calls Try.prog 16 #[.slice (some ad) len cap] w fun e w' => Cloned w len e0 e1 e w' := by
  have HH : Hid (IsEnds w (some ad) len cap b off e0 e1) := H
  clear H
  have hmk := make29 len (by omega) w
  have hnil := fun wx : World => Lib.run_eql_slice_nil (P := Try.prog) wx 29 31 (some ad) len cap 0 0 Try.underlying29
  go_enter Try.func16, Try.ntmps16
  go_wp2_with fail
  have HS : Hid (Row (w.alloc (.cells (madeCells #[.int .i64 0, .int .i64 0] (len * 2)) 31)) w.heap.size 31 (2 * len) (endCell e0 e1 0) ∧ Below w.heap.size w (w.alloc (.cells (madeCells #[.int .i64 0, .int .i64 0] (len * 2)) 31))) :=
    ⟨by rw [Nat.mul_comm]; exact (Row.made2 w (2 * len) 31).congr (fun i hi => by simp [endCell]), (Below.refl _ _).alloc (Nat.le_refl _) _⟩
  clear hmk
  go_loopw [4] (fun i wr => ∃ k : Nat, k ≤ len ∧ i = .int .i64 k ∧ Hid (Row wr w.heap.size 31 (2 * len) (endCell e0 e1 k) ∧ Below w.heap.size w wr)) (fun i _ => len - (intOf i).toNat)
  case atStart => exact ⟨0, Nat.zero_le _, rfl, HS⟩
  case round =>
    obtain ⟨k, hk, rfl, HR⟩ := hrel
    by_cases hlt : k < len
    · have i1 := HH.out.ix k hlt
      have i2 := index29 w.heap.size 0 len len k hlt
      have hlow := HH.out.low (by omega)
      have c0 : wr.cell? ⟨b, off + 2 * k, none⟩ = some (.int .i64 (e0 k)) := by rw [HR.out.2.cell (p := ⟨b, off + 2 * k, none⟩) hlow]; exact HH.out.c0 k hlt
      have c1 : wr.cell? ⟨b, off + 2 * k + 1, none⟩ = some (.int .i64 (e1 k)) := by rw [HR.out.2.cell (p := ⟨b, off + 2 * k + 1, none⟩) hlow]; exact HH.out.c1 k hlt
      have d0 := HR.out.1.cell (show 2 * k < 2 * len by omega)
      have d1 := HR.out.1.cell (show 2 * k + 1 < 2 * len by omega)
      have f0 := HR.out.1.frozen (2 * k)
      have f1 := HR.out.1.frozen (2 * k + 1)
      rw [Nat.zero_add] at i2
      go_wp2_with fail
      go_roundw
      case rel =>
        refine ⟨k + 1, by omega, by go_num, ((HR.out.1.set _ _).set _ _).congr (fun j hj => ?_), (HR.out.2.setCell (Nat.le_refl _) _).setCell (Nat.le_refl _) _⟩
        unfold upd endCell
        by_cases e1' : j = 2 * k + 1
        · rw [if_pos e1', if_pos (by omega), if_neg (by omega), show j / 2 = k by omega]
        · rw [if_neg e1']
          by_cases e2' : j = 2 * k
          · rw [if_pos e2', if_pos (by omega), if_pos (by omega), show j / 2 = k by omega]
          · rw [if_neg e2']
            by_cases e3 : j < 2 * k
            · rw [if_pos e3, if_pos (show j < 2 * (k + 1) by omega)]
            · rw [if_neg e3, if_neg (by omega)]
      case measure => simp [intOf]; omega
    · obtain rfl : k = len := by omega
      go_wp2_with fail
      go_ret
      refine ⟨_, _, w.heap.size, 0, rfl, ⟨index29 w.heap.size 0 k k, fun i hi => ?_, fun i hi => ?_, fun _ => HR.out.1.lt⟩, fun _ => Nat.le_refl _, HR.out.2⟩
      · rw [Nat.zero_add, HR.out.1.cell (by omega)]
        unfold endCell
        rw [if_pos (by omega), if_pos (by omega), show 2 * i / 2 = i by omega]
      · rw [Nat.zero_add, HR.out.1.cell (by omega)]
        unfold endCell
        rw [if_pos (by omega), if_neg (by omega), show (2 * i + 1) / 2 = i by omega]

theorem cloneEnds_nil (w : World) (cap : Nat) (e0 e1 : Nat → Int) : Calls Try.prog 16 #[.slice none 0 cap] w fun e w' => Cloned w 0 e0 e1 e w' := by
  have hnil := fun wx : World => Lib.run_eql_slice_nil (P := Try.prog) wx 29 31 none 0 cap 0 0 Try.underlying29
  go_enter Try.func16, Try.ntmps16
  go_wp2_with fail
  go_ret
  exact ⟨none, 0, 0, 0, rfl, ⟨fun i hi => absurd hi (Nat.not_lt_zero _), fun i hi => absurd hi (Nat.not_lt_zero _), fun i hi => absurd hi (Nat.not_lt_zero _), fun h => absurd h (Nat.not_lt_zero _)⟩, fun h => absurd h (Nat.not_lt_zero _), Below.refl _ _⟩

theorem cloneEnds_any {w : World} {a : Option Addr} {len cap b off : Nat} {e0 e1 : Nat → Int} (H : IsEnds w a len cap b off e0 e1) (hn : a = none → len = 0) (hl : len ≤ 65536) :
    Calls Try.prog 16 #[.slice a len cap] w fun e w' => Cloned w len e0 e1 e w' := by
  cases a with
  | none => obtain rfl := hn rfl; exact cloneEnds_nil w cap e0 e1
  | some ad => exact cloneEnds_some H hl
end Go.Proofs.Qxb6000582a
