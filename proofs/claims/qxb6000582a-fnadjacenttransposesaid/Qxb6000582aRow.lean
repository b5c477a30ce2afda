import Derived.Test.Qxb6000582aRows
import Derived.WalkKit
import Derived.WalkLawsBesides
import Derived.BigQuiet
import Derived.Deep.QuietTactic
import Derived.Below
import Derived.Deep.OwnRows
namespace Go.Proofs.Qxb6000582a
open Go.RowKit

theorem lt_heap {w : World} {b : Nat} {o : Obj} (h : w.heap[b]? = some o) : b < w.heap.size := (Array.getElem?_eq_some_iff.1 h).1

/-- The first n cells of block b (of elements t) hold f 0, f 1, .. -/
def Row (w : World) (b : Nat) (t : TypeId) (n : Nat) (f : Nat → Value) : Prop :=
  ∃ cs : Array Value, w.heap[b]? = some (.cells cs t (0, 0)) ∧ n ≤ cs.size ∧ ∀ i, i < n → cs[i]? = some (f i)

def upd {α : Type} (f : Nat → α) (i : Nat) (v : α) : Nat → α := fun j => if j = i then v else f j

theorem Row.cell {w : World} {b : Nat} {t : TypeId} {n : Nat} {f : Nat → Value} (h : Row w b t n f) {i : Nat} (hi : i < n) : w.cell? ⟨b, i, none⟩ = some (f i) := by
  obtain ⟨cs, h1, _, h2⟩ := h
  simp [World.cell?, h1, h2 i hi]
theorem Row.frozen {w : World} {b : Nat} {t : TypeId} {n : Nat} {f : Nat → Value} (h : Row w b t n f) (i : Nat) : w.frozen? ⟨b, i, none⟩ = false := by
  obtain ⟨cs, h1, _, h2⟩ := h
  simp [World.frozen?, h1]
theorem Row.lt {w : World} {b : Nat} {t : TypeId} {n : Nat} {f : Nat → Value} (h : Row w b t n f) : b < w.heap.size := by
  obtain ⟨cs, h1, _⟩ := h; exact lt_heap h1
theorem Row.of_block {w w' : World} {b : Nat} {t : TypeId} {n : Nat} {f : Nat → Value} (h : Row w b t n f) (hb : w'.heap[b]? = w.heap[b]?) : Row w' b t n f := by
  obtain ⟨cs, h1, h2⟩ := h; exact ⟨cs, hb.trans h1, h2⟩
theorem Row.alloc {w : World} {b : Nat} {t : TypeId} {n : Nat} {f : Nat → Value} (h : Row w b t n f) (o : Obj) : Row (w.alloc o) b t n f :=
  h.of_block (Below.heap_alloc w o b h.lt)
theorem Row.drewN {w : World} {b : Nat} {t : TypeId} {n : Nat} {f : Nat → Value} (h : Row w b t n f) (k : Nat) : Row (w.drewN k) b t n f := h
theorem Row.drew {w : World} {b : Nat} {t : TypeId} {n : Nat} {f : Nat → Value} (h : Row w b t n f) : Row w.drew b t n f := h
theorem Row.other {w : World} {b : Nat} {t : TypeId} {n : Nat} {f : Nat → Value} (h : Row w b t n f) {p : Addr} (hp : p.block ≠ b) (v : Value) : Row (w.setCell p v) b t n f :=
  h.of_block (Below.heap_setCell w p v b (fun e => hp e.symm))
theorem Row.set {w : World} {b : Nat} {t : TypeId} {n : Nat} {f : Nat → Value} (h : Row w b t n f) (i : Nat) (v : Value) : Row (w.setCell ⟨b, i, none⟩ v) b t n (upd f i v) := by
  obtain ⟨cs, h1, h2, h3⟩ := h
  refine ⟨cs.setIfInBounds i v, ?_, by simpa using h2, fun j hj => ?_⟩
  · show (w.heap.modify b _)[b]? = _
    rw [Array.getElem?_modify, if_pos rfl, h1]
    rfl
  · unfold upd
    rw [Array.getElem?_setIfInBounds]
    by_cases e : i = j
    · rw [if_pos e, if_pos e.symm, if_pos (by omega)]
    · rw [if_neg e, if_neg (fun h => e h.symm)]; exact h3 j hj
theorem Row.congr {w : World} {b : Nat} {t : TypeId} {n : Nat} {f g : Nat → Value} (h : Row w b t n f) (hg : ∀ i, i < n → f i = g i) : Row w b t n g := by
  obtain ⟨cs, h1, h2, h3⟩ := h
  exact ⟨cs, h1, h2, fun i hi => by rw [← hg i hi]; exact h3 i hi⟩
theorem Row.below {w w' : World} {B b : Nat} {t : TypeId} {n : Nat} {f : Nat → Value} (h : Row w b t n f) (hb : Below B w w') (hB : b < B) : Row w' b t n f :=
  h.of_block (hb.block b hB)
/-- What 'make' has laid. -/
theorem Row.made (w : World) (z : Value) (n : Nat) (t : TypeId) : Row (w.alloc (.cells (madeCells #[z] n) t)) w.heap.size t n (fun _ => z) :=
  ⟨_, heap_alloc_new _ _, by rw [size_madeCells]; exact Nat.le_refl _, fun i hi => by simp [madeCells, hi, Nat.mod_one]⟩
/-- What slices.Clone has laid. -/
theorem Row.owned {w : World} {B b : Nat} {t : TypeId} {n cap : Nat} {xs : List Value} {f : Nat → Value} (h : w.ownsRow B t 1 (.slice (some ⟨b, 0, none⟩) n cap) n xs) (hf : ∀ i, i < n → xs[i]? = some (f i)) : Row w b t n f := by
  have hl := h.1
  rcases h.2 with ⟨hv, _⟩ | ⟨g, cap', cur, hv, hg, hh, hcap, hmax, hsz, hx⟩
  · cases hv
  · cases hv
    refine ⟨cur, hh, by omega, fun i hi => ?_⟩
    have := hf i hi
    rw [← hx, List.getElem?_take, if_pos (by omega)] at this
    simpa using this

theorem info3 : (Try.prog.info? 3).map (fun i => (i.zero, i.size, i.bytes)) = some (some (.int .i64 0), 1, 8) := by kernel_rfl
theorem info37 : (Try.prog.info? 37).map (fun i => (i.zero, i.size, i.bytes)) = some (some (.slice none 0 0), 1, 24) := by kernel_rfl
theorem info38 : (Try.prog.info? 38).map (fun i => (i.zero, i.size, i.bytes)) = some (some (.slice none 0 0), 1, 24) := by kernel_rfl
theorem info4 : (Try.prog.info? 4).map (fun i => (i.zero, i.size, i.bytes)) = some (some (.bool false), 1, 1) := by kernel_rfl
theorem make37 (n : Nat) (hn : n ≤ 100000) (w : World) : (Instr.makeSlice 37 (.int .i64 (n : Int)) (.int .i64 (n : Int))).run Try.prog w = .ok (.slice (some ⟨w.heap.size, 0, none⟩) n n) (w.alloc (.cells (madeCells #[.int .i64 0] n) 3)) :=
  run_make_row' (P := Try.prog) 37 3 (.int .i64 0) 8 Try.underlying37 info3 rfl .i64 .i64 n (by omega) (by omega) w
theorem make33 (n : Nat) (hn : n ≤ 100000) (w : World) : (Instr.makeSlice 33 (.int .i64 (n : Int)) (.int .i64 (n : Int))).run Try.prog w = .ok (.slice (some ⟨w.heap.size, 0, none⟩) n n) (w.alloc (.cells (madeCells #[.slice none 0 0] n) 37)) :=
  run_make_row' (P := Try.prog) 33 37 (.slice none 0 0) 24 Try.underlying33 info37 rfl .i64 .i64 n (by omega) (by omega) w
theorem make35 (n : Nat) (hn : n ≤ 100000) (w : World) : (Instr.makeSlice 35 (.int .i64 (n : Int)) (.int .i64 (n : Int))).run Try.prog w = .ok (.slice (some ⟨w.heap.size, 0, none⟩) n n) (w.alloc (.cells (madeCells #[.slice none 0 0] n) 38)) :=
  run_make_row' (P := Try.prog) 35 38 (.slice none 0 0) 24 Try.underlying35 info38 rfl .i64 .i64 n (by omega) (by omega) w
theorem make38 (n : Nat) (hn : n ≤ 100000) (w : World) : (Instr.makeSlice 38 (.int .i64 (n : Int)) (.int .i64 (n : Int))).run Try.prog w = .ok (.slice (some ⟨w.heap.size, 0, none⟩) n n) (w.alloc (.cells (madeCells #[.bool false] n) 4)) :=
  run_make_row' (P := Try.prog) 38 4 (.bool false) 1 Try.underlying38 info4 rfl .i64 .i64 n (by omega) (by omega) w

/-- A slice of ints as the walks are told of it. -/
structure IsInts (w : World) (a : Option Addr) (len cap b off : Nat) (zs : List Int) : Prop where
  length : zs.length = len
  ix : ∀ i : Nat, i < len → ∀ w, (Instr.indexAt 37 (.slice a len cap) (.int .i64 i)).run Try.prog w = .ok (.pointer (some ⟨b, off + i, none⟩)) w
  cell : ∀ i, i < len → w.cell? ⟨b, off + i, none⟩ = some (.int .i64 (zs.getD i 0))

theorem IsInts.of_cells {w w' : World} {a : Option Addr} {len cap b off : Nat} {zs : List Int} (h : IsInts w a len cap b off zs) (hb : w'.heap[b]? = w.heap[b]?) : IsInts w' a len cap b off zs :=
  ⟨h.length, h.ix, fun i hi => by rw [World.cell?_of_block (w := w) (a := ⟨b, off + i, none⟩) hb]; exact h.cell i hi⟩

theorem add_addr (b off k : Nat) : (⟨b, off, none⟩ : Addr).add k = ⟨b, off + k, none⟩ := by
  unfold Addr.add
  split
  · rename_i h; subst h; simp
  · rfl

theorem index37 (b off len cap i : Nat) (hi : i < len) (w : World) : (Instr.indexAt 37 (.slice (some ⟨b, off, none⟩) len cap) (.int .i64 i)).run Try.prog w = .ok (.pointer (some ⟨b, off + i, none⟩)) w := by
  have hs : ∀ w, (sizeOf 3).run Try.prog w = .ok 1 w := fun w => by kernel_rfl
  have he : Try.prog.elem 37 = 3 := by kernel_rfl
  rw [run_indexAt_slice (h := by rw [he]; exact Try.underlying37), if_pos (by omega), he, hs]
  simp only [Result.andThen_ok, Nat.mul_one, Int.toNat_natCast, add_addr]
theorem index33 (b off len cap i : Nat) (hi : i < len) (w : World) : (Instr.indexAt 33 (.slice (some ⟨b, off, none⟩) len cap) (.int .i64 i)).run Try.prog w = .ok (.pointer (some ⟨b, off + i, none⟩)) w := by
  have hs : ∀ w, (sizeOf 37).run Try.prog w = .ok 1 w := fun w => by kernel_rfl
  have he : Try.prog.elem 33 = 37 := by kernel_rfl
  rw [run_indexAt_slice (h := by rw [he]; exact Try.underlying33), if_pos (by omega), he, hs]
  simp only [Result.andThen_ok, Nat.mul_one, Int.toNat_natCast, add_addr]
theorem index35 (b off len cap i : Nat) (hi : i < len) (w : World) : (Instr.indexAt 35 (.slice (some ⟨b, off, none⟩) len cap) (.int .i64 i)).run Try.prog w = .ok (.pointer (some ⟨b, off + i, none⟩)) w := by
  have hs : ∀ w, (sizeOf 38).run Try.prog w = .ok 1 w := fun w => by kernel_rfl
  have he : Try.prog.elem 35 = 38 := by kernel_rfl
  rw [run_indexAt_slice (h := by rw [he]; exact Try.underlying35), if_pos (by omega), he, hs]
  simp only [Result.andThen_ok, Nat.mul_one, Int.toNat_natCast, add_addr]
theorem index38 (b off len cap i : Nat) (hi : i < len) (w : World) : (Instr.indexAt 38 (.slice (some ⟨b, off, none⟩) len cap) (.int .i64 i)).run Try.prog w = .ok (.pointer (some ⟨b, off + i, none⟩)) w := by
  have hs : ∀ w, (sizeOf 4).run Try.prog w = .ok 1 w := fun w => by kernel_rfl
  have he : Try.prog.elem 38 = 4 := by kernel_rfl
  rw [run_indexAt_slice (h := by rw [he]; exact Try.underlying38), if_pos (by omega), he, hs]
  simp only [Result.andThen_ok, Nat.mul_one, Int.toNat_natCast, add_addr]
theorem index29 (b off len cap i : Nat) (hi : i < len) (w : World) : (Instr.indexAt 29 (.slice (some ⟨b, off, none⟩) len cap) (.int .i64 i)).run Try.prog w = .ok (.pointer (some ⟨b, off + 2 * i, none⟩)) w := by
  have hs : ∀ w, (sizeOf 31).run Try.prog w = .ok 2 w := fun w => by kernel_rfl
  have he : Try.prog.elem 29 = 31 := by kernel_rfl
  rw [run_indexAt_slice (h := by rw [he]; exact Try.underlying29), if_pos (by omega), he, hs]
  simp only [Result.andThen_ok, Int.toNat_natCast, add_addr, Nat.mul_comm]

end Go.Proofs.Qxb6000582a
