import Derived.Test.Qxb6000582aAdjPlain
import Derived.Test.Qxb6000582aClone
import Derived.Sort.Grow
namespace Go.Proofs.Qxb6000582a
open Go.RowKit Go.Sort

/-! ### The sort's words on rows -/

def put (A : Nat → Int) (off : Nat) (zs : List Int) : Nat → Int := fun j => if off ≤ j ∧ j < off + zs.length then zs.getD (j - off) 0 else A j

theorem heap_putRow_other (w : World) (b off k : Nat) (d : Array Int) (h : k ≠ b) : (putRow (Value.int .i64) w b off d).heap[k]? = w.heap[k]? := by
  unfold putRow mapBlock
  simp only [Array.getElem?_modify]
  rw [if_neg (fun e => h e.symm)]

theorem Row.putRow {w : World} {b : Nat} {t : TypeId} {n : Nat} {A : Nat → Int} (h : Row w b t n (fun j => .int .i64 (A j))) (off : Nat) (zs : List Int) : Row (putRow (Value.int .i64) w b off zs.toArray) b t n (fun j => .int .i64 (put A off zs j)) := by
  obtain ⟨cs, h1, h2, h3⟩ := h
  refine ⟨putCells (Value.int .i64) off zs.toArray cs, ?_, by simpa [putCells] using h2, fun i hi => ?_⟩
  · unfold Sort.putRow mapBlock
    simp only [Array.getElem?_modify, if_true]
    rw [h1]
    rfl
  · unfold putCells put
    rw [Array.getElem?_mapIdx, h3 i hi]
    simp only [Option.map_some, List.size_toArray]
    by_cases hc : off ≤ i ∧ i < off + zs.length
    · rw [if_pos hc, if_pos hc]
      have : zs.toArray[i - off]! = zs.getD (i - off) 0 := by
        rw [getElem!_pos zs.toArray (i - off) (by simp; omega), List.getD_eq_getElem?_getD, List.getElem?_eq_getElem (by omega)]
        simp
      rw [this]
    · rw [if_neg hc, if_neg hc]
theorem Row.putOther {w : World} {b : Nat} {t : TypeId} {n : Nat} {f : Nat → Value} (h : Row w b t n f) {b' : Nat} (hb : b ≠ b') (off : Nat) (d : Array Int) : Row (Sort.putRow (Value.int .i64) w b' off d) b t n f :=
  h.of_block (heap_putRow_other w b' off b d hb)
theorem Row.ahead {w : World} {b : Nat} {t : TypeId} {n : Nat} {f : Nat → Value} (h : Row w b t n f) (k : Nat) : Row (Sort.ahead w k) b t n f := h
theorem Row.grow {w : World} {b : Nat} {t : TypeId} {n : Nat} {f : Nat → Value} (h : Row w b t n f) (os : Array Obj) : Row (Sort.grow w os) b t n f := h.of_block (heap_grow_old w os h.lt)
theorem below_grow {B : Nat} {a w : World} (h : Below B a w) (hB : B ≤ w.heap.size) (os : Array Obj) : Below B a (Sort.grow w os) :=
  h.trans ⟨rfl, rfl, rfl, by simp, fun k hk => heap_grow_old w os (by omega)⟩
theorem below_put {B : Nat} {a w : World} (h : Below B a w) {b : Nat} (hb : B ≤ b) (off : Nat) (d : Array Int) : Below B a (Sort.putRow (Value.int .i64) w b off d) :=
  h.trans ⟨rfl, rfl, rfl, by simp, fun k hk => heap_putRow_other w b off k d (by omega)⟩
theorem below_ahead {B : Nat} {a w : World} (h : Below B a w) (n : Nat) : Below B a (Sort.ahead w n) := ⟨h.os, h.tape, h.output, h.size, h.block⟩
theorem below_drewN {B : Nat} {a w : World} (h : Below B a w) (n : Nat) : Below B a (w.drewN n) := ⟨h.os, h.tape, h.output, h.size, h.block⟩

theorem Row.holds {w : World} {b : Nat} {t : TypeId} {n : Nat} {A : Nat → Int} (h : Row w b t n (fun j => .int .i64 (A j))) {off : Nat} {zs : List Int} (hn : zs.length = 0 ∨ off + zs.length ≤ n) (hz : ∀ j, j < zs.length → A (off + j) = zs.getD j 0) : Holds (Value.int .i64) w b off zs.toArray := by
  intro j hj
  have hj' : j < zs.length := by simpa using hj
  refine ⟨?_, h.frozen _⟩
  rw [h.cell (by omega), hz j hj', getElem!_pos zs.toArray j hj, List.getD_eq_getElem?_getD, List.getElem?_eq_getElem hj']
  simp

/-! ### Slicing -/
theorem slice37 (g m l h : Nat) (h1 : l ≤ h) (h2 : h ≤ m) (w : World) : (Instr.slice 37 (.slice (some ⟨g, 0, none⟩) m m) (some (.int .i64 (l : Int))) (some (.int .i64 (h : Int))) none).run Try.prog w = .ok (.slice (some ⟨g, if m = l then 0 else l, none⟩) (h - l) (m - l)) w := by
  have hs : ∀ w, (sizeOf 3).run Try.prog w = .ok 1 w := fun w => by kernel_rfl
  have he : Try.prog.elem 37 = 3 := by kernel_rfl
  rw [run_slice_lh (P := Try.prog) w 37 (some ⟨g, 0, none⟩) m m (by rw [he]; exact Try.underlying37) .i64 .i64 l h (by omega) (by omega) (by omega), he, hs]
  simp only [Result.andThen_ok, Int.toNat_natCast, sliced, Nat.mul_one]
  by_cases e : m = l
  · rw [if_pos e, if_pos e]
  · rw [if_neg e, if_neg e]
    simp only [Option.map_some, add_addr, Nat.zero_add]
theorem slice37_to (g n : Nat) (w : World) : (Instr.slice 37 (.slice (some ⟨g, 0, none⟩) (n + 1) (n + 1)) none (some (.int .i64 (n : Int))) none).run Try.prog w = .ok (.slice (some ⟨g, 0, none⟩) n (n + 1)) w := by
  have hs : ∀ w, (sizeOf 3).run Try.prog w = .ok 1 w := fun w => by kernel_rfl
  have he : Try.prog.elem 37 = 3 := by kernel_rfl
  rw [run_slice_h (P := Try.prog) w 37 (some ⟨g, 0, none⟩) (n + 1) (n + 1) (by rw [he]; exact Try.underlying37) .i64 n (by omega) (by omega), he, hs]
  simp only [Result.andThen_ok, Int.toNat_natCast, sliced, Nat.zero_mul]
  rw [if_neg (by omega)]
  simp only [Option.map_some, add_addr, Nat.zero_add, Nat.sub_zero]

/-! ### The four loops -/
variable {src : Nat → Nat} {dst : Nat → Int}

def st1 (src : Nat → Nat) (dst : Nat → Int) (k : Nat) : Nat → Nat
  | 0 => 0
  | j + 1 => (lst src dst k j).length
def st2 (src : Nat → Nat) (dst : Nat → Int) (m v : Nat) : Nat → Nat := fun j => if j ≤ v then below src dst m j else st1 src dst m j

def iv (f : Nat → Nat) : Nat → Value := fun j => .int .i64 ((f j : Nat) : Int)
def zv (A : Nat → Int) : Nat → Value := fun j => .int .i64 (A j)

structure A1 (src : Nat → Nat) (dst : Nat → Int) (w wr : World) (n k : Nat) : Prop where
  start : Row wr w.heap.size 3 (n + 1) (iv (st1 src dst k))
  bel : Below w.heap.size w wr

theorem A1.first (w : World) (n : Nat) : A1 src dst w (w.alloc (.cells (madeCells #[.int .i64 0] (n + 1)) 3)) n 0 :=
  ⟨(Row.made w _ (n + 1) 3).congr (fun i _ => by cases i <;> rfl), (Below.refl _ _).alloc (Nat.le_refl _) _⟩

theorem A1.alloc {w wr : World} {n k : Nat} (h : A1 src dst w wr n k) (o : Obj) : A1 src dst w (wr.alloc o) n k := ⟨h.start.alloc o, h.bel.alloc h.bel.size o⟩

theorem A1.step {w wr : World} {n k : Nat} (h : A1 src dst w wr n k) {c : Nat} (hc : (lst src dst k (src k)).length = c) : A1 src dst w (wr.setCell ⟨w.heap.size, src k + 1, none⟩ (.int .i64 ((c : Int) + 1))) n (k + 1) := by
  refine ⟨(h.start.set _ _).congr (fun j hj => ?_), h.bel.setCell (Nat.le_refl _) _⟩
  unfold upd iv
  cases j with
  | zero => rw [if_neg (by omega)]; rfl
  | succ j =>
    by_cases e : j = src k
    · rw [if_pos (by omega), e]
      show _ = Value.int .i64 (((lst src dst (k + 1) (src k)).length : Nat) : Int)
      rw [lst_same rfl, List.length_append, hc]
      simp
    · rw [if_neg (by omega)]
      show Value.int .i64 (((lst src dst k j).length : Nat) : Int) = Value.int .i64 (((lst src dst (k + 1) j).length : Nat) : Int)
      rw [lst_other (fun h => e h.symm)]

structure A2 (src : Nat → Nat) (dst : Nat → Int) (w wr : World) (n m v : Nat) : Prop where
  start : Row wr w.heap.size 3 (n + 1) (iv (st2 src dst m v))
  bel : Below w.heap.size w wr

theorem A1.last {w wr : World} {n m : Nat} (h : A1 src dst w wr n m) : A2 src dst w wr n m 0 :=
  ⟨h.start.congr (fun j _ => by
    unfold iv st2
    cases j with
    | zero => rfl
    | succ j => rw [if_neg (by omega)]), h.bel⟩

theorem A2.drewN {w wr : World} {n m v : Nat} (h : A2 src dst w wr n m v) (q : Nat) : A2 src dst w (wr.drewN q) n m v := ⟨h.start, below_drewN h.bel q⟩
theorem A2.drew {w wr : World} {n m v : Nat} (h : A2 src dst w wr n m v) : A2 src dst w wr.drew n m v := ⟨h.start, below_drewN h.bel 1⟩

theorem A2.step {w wr : World} {n m v : Nat} (h : A2 src dst w wr n m v) {c b : Nat} (hc : (lst src dst m v).length = c) (hb : below src dst m v = b) : A2 src dst w (wr.setCell ⟨w.heap.size, v + 1, none⟩ (.int .i64 ((c : Int) + (b : Int)))) n m (v + 1) := by
  refine ⟨(h.start.set _ _).congr (fun j hj => ?_), h.bel.setCell (Nat.le_refl _) _⟩
  unfold upd iv st2
  by_cases e : j = v + 1
  · rw [if_pos e, if_pos (by omega), e, below, hc, hb]
    congr 1
    omega
  · rw [if_neg e]
    by_cases e2 : j ≤ v
    · rw [if_pos e2, if_pos (by omega)]
    · rw [if_neg e2, if_neg (by omega)]

def Placed (src : Nat → Nat) (dst : Nat → Int) (n m k : Nat) (A : Nat → Int) : Prop := ∀ v, v < n → ∀ j, j < (lst src dst k v).length → A (below src dst m v + j) = (lst src dst k v).getD j 0

structure A3 (src : Nat → Nat) (dst : Nat → Int) (w wr : World) (n m k ga gf : Nat) (A : Nat → Int) : Prop where
  start : Row wr w.heap.size 3 (n + 1) (iv (below src dst m))
  all : Row wr ga 3 m (zv A)
  fil : Row wr gf 3 n (iv fun v => below src dst m v + (lst src dst k v).length)
  placed : Placed src dst n m k A
  lt1 : w.heap.size < ga
  lt2 : ga < gf
  bel : Below w.heap.size w wr

theorem A2.last {w wr : World} {n m : Nat} (h : A2 src dst w wr n m n) : Row wr w.heap.size 3 (n + 1) (iv (below src dst m)) :=
  h.start.congr (fun j hj => by unfold iv st2; rw [if_pos (by omega)])

theorem A3.alloc {w wr : World} {n m k ga gf : Nat} {A : Nat → Int} (h : A3 src dst w wr n m k ga gf A) (o : Obj) : A3 src dst w (wr.alloc o) n m k ga gf A :=
  ⟨h.start.alloc o, h.all.alloc o, h.fil.alloc o, h.placed, h.lt1, h.lt2, h.bel.alloc h.bel.size o⟩
theorem A3.drewN {w wr : World} {n m k ga gf : Nat} {A : Nat → Int} (h : A3 src dst w wr n m k ga gf A) (q : Nat) : A3 src dst w (wr.drewN q) n m k ga gf A :=
  ⟨h.start.drewN q, h.all.drewN q, h.fil.drewN q, h.placed, h.lt1, h.lt2, below_drewN h.bel q⟩
theorem A3.drew {w wr : World} {n m k ga gf : Nat} {A : Nat → Int} (h : A3 src dst w wr n m k ga gf A) : A3 src dst w wr.drew n m k ga gf A :=
  ⟨h.start, h.all, h.fil, h.placed, h.lt1, h.lt2, below_drewN h.bel 1⟩

theorem A3.step {w wr : World} {n m k ga gf : Nat} {A : Nat → Int} (h : A3 src dst w wr n m k ga gf A) (hm : k < m) {p : Nat} {d : Int} (hp : below src dst m (src k) + (lst src dst k (src k)).length = p) (hd : dst k = d) :
    A3 src dst w ((wr.setCell ⟨ga, p, none⟩ (.int .i64 d)).setCell ⟨gf, src k, none⟩ (.int .i64 ((p : Int) + 1))) n m (k + 1) ga gf (upd A p d) := by
  have hs := h.bel.size
  have l1 := h.lt1
  have l2 := h.lt2
  refine ⟨(h.start.other (by show ga ≠ _; omega) _).other (by show gf ≠ _; omega) _, ((h.all.set p _).congr (fun j _ => ?_)).other (by show gf ≠ _; omega) _, ((h.fil.other (by show ga ≠ _; omega) _).set _ _).congr (fun v _ => ?_), ?_, l1, l2, (h.bel.setCell (by show _ ≤ ga; omega) _).setCell (by show _ ≤ gf; omega) _⟩
  · unfold upd zv
    by_cases e : j = p
    · rw [if_pos e]; simp [e]
    · rw [if_neg e]; simp [e]
  · unfold upd iv
    simp only
    by_cases e : v = src k
    · rw [if_pos e, e, lst_same rfl, List.length_append, ← hp]
      congr 1
    · rw [if_neg e, lst_other (fun h => e h.symm)]
  · intro v hv j hj
    by_cases e : v = src k
    · subst e
      rw [lst_same rfl] at hj ⊢
      rw [List.length_append, List.length_singleton] at hj
      unfold upd
      by_cases e2 : j = (lst src dst k (src k)).length
      · rw [if_pos (by omega), e2, List.getD_eq_getElem?_getD, List.getElem?_append_right (Nat.le_refl _)]
        simp [hd]
      · rw [if_neg (by omega), h.placed (src k) hv j (by omega), List.getD_eq_getElem?_getD, List.getD_eq_getElem?_getD, List.getElem?_append_left (by omega)]
    · rw [lst_other (fun h => e h.symm)] at hj ⊢
      unfold upd
      have h1 := lst_len_mono (src := src) (dst := dst) (Nat.le_of_lt hm) v
      have h2 := lst_len_lt (src := src) (dst := dst) hm (v := src k) rfl
      rw [if_neg (fun h3 => seg_apart (src := src) (dst := dst) (m := m) e (Nat.lt_of_lt_of_le hj h1) h2 (by omega)), h.placed v hv j hj]

theorem A3.first {w wr w3 : World} {n m : Nat} {v' : Value} (h : Row wr w.heap.size 3 (n + 1) (iv (below src dst m)) ∧ Below w.heap.size w wr)
    (hown : w3.ownsRow (wr.alloc (.cells (madeCells #[.int .i64 0] m) 3)).heap.size 3 1 v' n ((((List.range n).map (fun j => ((below src dst m j : Nat) : Int))).take n).map (Value.int .i64))) (hnn : v' ≠ .slice none 0 0)
    (hb : Below (wr.alloc (.cells (madeCells #[.int .i64 0] m) 3)).heap.size (wr.alloc (.cells (madeCells #[.int .i64 0] m) 3)) w3) :
    ∃ gf fc, v' = .slice (some ⟨gf, 0, none⟩) n fc ∧ A3 src dst w w3 n m 0 wr.heap.size gf (fun _ => 0) := by
  rcases hown.2 with ⟨h0, _⟩ | ⟨gf, fc, cur, hv, hbase, hrest⟩
  · exact absurd h0 hnn
  · have hv' := hv
    subst hv
    refine ⟨gf, fc, rfl, (h.1.alloc _).below hb (by have := h.1.lt; simp; omega), (Row.made wr (.int .i64 0) m 3).below hb (by simp), Row.owned hown (fun i hi => ?_), fun v _ j hj => absurd hj (Nat.not_lt_zero _), h.1.lt, by simp at hbase; omega, (h.2.alloc h.2.size _).trans (hb.mono (by have := h.2.size; simp; omega))⟩
    rw [List.getElem?_map, List.getElem?_take, if_pos hi, List.getElem?_map, List.getElem?_range hi]
    rfl

/-! ### The lists -/
def ofs (src : Nat → Nat) (dst : Nat → Int) (m v : Nat) : Nat := if m = below src dst m v then 0 else below src dst m v
def lv (src : Nat → Nat) (dst : Nat → Int) (ga m v : Nat) : Value := .slice (some ⟨ga, ofs src dst m v, none⟩) (uniq (lst src dst m v)).length (m - below src dst m v)

structure A4 (src : Nat → Nat) (dst : Nat → Int) (w wr : World) (n m v ga gl : Nat) (A : Nat → Int) : Prop where
  start : Row wr w.heap.size 3 (n + 1) (iv (below src dst m))
  all : Row wr ga 3 m (zv A)
  lists : Row wr gl 37 n (fun u => if u < v then lv src dst ga m u else .slice none 0 0)
  done : ∀ u, u < v → u < n → ∀ j, j < (uniq (lst src dst m u)).length → A (below src dst m u + j) = (uniq (lst src dst m u)).getD j 0
  todo : ∀ u, v ≤ u → u < n → ∀ j, j < (lst src dst m u).length → A (below src dst m u + j) = (lst src dst m u).getD j 0
  lt1 : w.heap.size < ga
  lt2 : ga < gl
  bel : Below w.heap.size w wr

theorem A4.first {w wr : World} {n m ga gf : Nat} {A : Nat → Int} (h : A3 src dst w wr n m m ga gf A) : A4 src dst w (wr.alloc (.cells (madeCells #[.slice none 0 0] n) 37)) n m 0 ga wr.heap.size A :=
  ⟨h.start.alloc _, h.all.alloc _, (Row.made wr _ n 37).congr (fun u _ => by rw [if_neg (by omega)]), fun u hu => absurd hu (Nat.not_lt_zero _), fun u _ hu j hj => h.placed u hu j hj, h.lt1, h.all.lt, h.bel.alloc h.bel.size _⟩

theorem put_out {A : Nat → Int} {off : Nat} {zs : List Int} {j : Nat} (h : ¬ (off ≤ j ∧ j < off + zs.length)) : put A off zs j = A j := if_neg h
theorem put_in {A : Nat → Int} {off : Nat} {zs : List Int} {j : Nat} (h : j < zs.length) : put A off zs (off + j) = zs.getD j 0 := by
  unfold put
  rw [if_pos (by omega), Nat.add_sub_cancel_left]

theorem ofs_eq {n m v : Nat} (hv : v < n) (h : 0 < (lst src dst m v).length) : ofs src dst m v = below src dst m v := by
  have := seg_le (src := src) (dst := dst) (m := m) hv
  exact if_neg (by omega)

/-- What Compact leaves in the list's place. -/
def packed (zs : List Int) : List Int := uniq zs ++ List.replicate ((zs.mergeSort fun x y => decide (x ≤ y)).length - (uniq zs).length) 0
theorem packed_len (zs : List Int) : (packed zs).length = zs.length := by
  unfold packed
  have := uniq_le zs
  rw [List.length_append, List.length_replicate, List.length_mergeSort]
  omega
theorem packed_get (zs : List Int) {j : Nat} (h : j < (uniq zs).length) : (packed zs).getD j 0 = (uniq zs).getD j 0 := by
  unfold packed
  rw [List.getD_eq_getElem?_getD, List.getD_eq_getElem?_getD, List.getElem?_append_left h]

/-- The world behind Sort, Compact and the store. -/
def after4 (src : Nat → Nat) (dst : Nat → Int) (wr : World) (m v ga gl nn q r : Nat) (os : Array Obj) : World :=
  ((Sort.putRow (Value.int .i64) (Sort.ahead (Sort.grow (Sort.putRow (Value.int .i64) (Sort.ahead wr nn) ga (ofs src dst m v) ((lst src dst m v).mergeSort fun x y => decide (x ≤ y)).toArray) os) q) ga (ofs src dst m v) (packed (lst src dst m v)).toArray).setCell ⟨gl, v, none⟩ (lv src dst ga m v)).drewN r

theorem A4.step {w wr : World} {n m v ga gl : Nat} {A : Nat → Int} (h : A4 src dst w wr n m v ga gl A) (hv : v < n) (nn q r : Nat) (os : Array Obj) :
    ∃ A', A4 src dst w (after4 src dst wr m v ga gl nn q r os) n m (v + 1) ga gl A' := by
  have hs := h.bel.size
  have l1 := h.lt1
  have l2 := h.lt2
  have hpl := packed_len (lst src dst m v)
  have hml : ((lst src dst m v).mergeSort fun x y => decide (x ≤ y)).length = (lst src dst m v).length := List.length_mergeSort _
  have hul := uniq_le (lst src dst m v)
  refine ⟨put (put A (ofs src dst m v) ((lst src dst m v).mergeSort fun x y => decide (x ≤ y))) (ofs src dst m v) (packed (lst src dst m v)), ?_⟩
  have far : ∀ u, u ≠ v → ∀ j, j < (lst src dst m u).length → put (put A (ofs src dst m v) ((lst src dst m v).mergeSort fun x y => decide (x ≤ y))) (ofs src dst m v) (packed (lst src dst m v)) (below src dst m u + j) = A (below src dst m u + j) := by
    intro u hu j hj
    have hno : ¬ (ofs src dst m v ≤ below src dst m u + j ∧ below src dst m u + j < ofs src dst m v + (lst src dst m v).length) := by
      rintro ⟨h1, h2⟩
      have h0 : 0 < (lst src dst m v).length := by omega
      rw [ofs_eq hv h0] at h1 h2
      exact seg_apart (src := src) (dst := dst) (m := m) (u := u) (v := v) (i := j) (j := below src dst m u + j - below src dst m v) hu hj (by omega) (by omega)
    rw [put_out (by rw [hpl]; exact hno), put_out (by rw [hml]; exact hno)]
  refine ⟨(((((h.start.ahead nn).putOther (by omega) _ _).grow os).ahead q).putOther (by omega) _ _ |>.other (by show gl ≠ _; omega) _).drewN r,
    (((((Row.putRow (h.all.ahead nn) _ _).grow os).ahead q).putRow _ _).other (by show gl ≠ _; omega) _).drewN r,
    ((((((h.lists.ahead nn).putOther (by omega) _ _).grow os).ahead q).putOther (by omega) _ _ |>.set v _).congr (fun u _ => ?_)).drewN r,
    fun u hu hun j hj => ?_, fun u hu hun j hj => ?_, l1, l2,
    below_drewN ((below_put (below_ahead (below_grow (below_put (below_ahead h.bel nn) (by omega) _ _) (by simpa using hs) os) q) (by omega) _ _).setCell (by show _ ≤ gl; omega) _) r⟩
  · unfold upd
    by_cases e : u = v
    · rw [if_pos e, if_pos (by omega), e]
    · rw [if_neg e]
      simp only
      by_cases e2 : u < v
      · rw [if_pos e2, if_pos (by omega)]
      · rw [if_neg e2, if_neg (by omega)]
  · by_cases e : u = v
    · subst e
      rw [show below src dst m u = ofs src dst m u from (ofs_eq hv (by omega)).symm, put_in (by omega), packed_get _ hj]
    · rw [far u e j (Nat.lt_of_lt_of_le hj (uniq_le _))]
      exact h.done u (by omega) hun j hj
  · rw [far u (by omega) j hj]
    exact h.todo u (by omega) hun j hj

theorem A4.drewN {w wr : World} {n m v ga gl : Nat} {A : Nat → Int} (h : A4 src dst w wr n m v ga gl A) (q : Nat) : A4 src dst w (wr.drewN q) n m v ga gl A :=
  ⟨h.start.drewN q, h.all.drewN q, h.lists.drewN q, h.done, h.todo, h.lt1, h.lt2, below_drewN h.bel q⟩

theorem A4.holds {w wr : World} {n m v ga gl : Nat} {A : Nat → Int} (h : A4 src dst w wr n m v ga gl A) (hv : v < n) : Holds (Value.int .i64) wr ga (ofs src dst m v) (lst src dst m v).toArray := by
  have hs := seg_le (src := src) (dst := dst) (m := m) hv
  by_cases h0 : (lst src dst m v).length = 0
  · exact Row.holds h.all (.inl h0) (fun j hj => by omega)
  · have ho := ofs_eq (src := src) (dst := dst) (m := m) hv (by omega)
    refine Row.holds h.all (.inr (by omega)) (fun j hj => ?_)
    rw [ho]
    exact h.todo v (Nat.le_refl _) hv j hj

def after5 (src : Nat → Nat) (dst : Nat → Int) (wr : World) (m v ga nn : Nat) (os : Array Obj) : World :=
  Sort.grow (Sort.putRow (Value.int .i64) (Sort.ahead wr nn) ga (ofs src dst m v) ((lst src dst m v).mergeSort fun x y => decide (x ≤ y)).toArray) os
def after6 (src : Nat → Nat) (dst : Nat → Int) (wr : World) (m v ga nn q : Nat) (os : Array Obj) : World :=
  Sort.putRow (Value.int .i64) (Sort.ahead (after5 src dst wr m v ga nn os) q) ga (ofs src dst m v) (packed (lst src dst m v)).toArray

theorem A4.holds5 {w wr : World} {n m v ga gl : Nat} {A : Nat → Int} (h : A4 src dst w wr n m v ga gl A) (hv : v < n) (nn : Nat) (os : Array Obj) : Holds (Value.int .i64) (after5 src dst wr m v ga nn os) ga (ofs src dst m v) ((lst src dst m v).mergeSort fun x y => decide (x ≤ y)).toArray :=
  holds_grow _ _ os _ _ _ (by have := h.all.lt; simpa using this) (holds_putRow _ _ _ _ _ _ (holds_ahead _ _ nn _ _ _ (h.holds hv)) (by simp))

theorem A4.row6 {w wr : World} {n m v ga gl : Nat} {A : Nat → Int} (h : A4 src dst w wr n m v ga gl A) (nn q : Nat) (os : Array Obj) : Row (after6 src dst wr m v ga nn q os) gl 37 n (fun u => if u < v then lv src dst ga m u else .slice none 0 0) := by
  have l2 := h.lt2
  exact ((((h.lists.ahead nn).putOther (by omega) _ _).grow os).ahead q).putOther (by omega) _ _

theorem after4_eq (wr : World) (m v ga gl nn q : Nat) (os : Array Obj) : after4 src dst wr m v ga gl nn q 0 os = (after6 src dst wr m v ga nn q os).setCell ⟨gl, v, none⟩ (lv src dst ga m v) := rfl

/-- slices.Compact, at the sorted list. -/
theorem A4.last {w wr : World} {n m ga gl : Nat} {A : Nat → Int} (h : A4 src dst w wr n m n ga gl A) : Row wr gl 37 n (lv src dst ga m) ∧
    ∀ v, v < n → IsInts wr (some ⟨ga, ofs src dst m v, none⟩) (uniq (lst src dst m v)).length (m - below src dst m v) ga (ofs src dst m v) (uniq (lst src dst m v)) := by
  refine ⟨h.lists.congr (fun u hu => if_pos hu), fun v hv => ⟨rfl, fun i hi w' => index37 _ _ _ _ i hi w', fun i hi => ?_⟩⟩
  have h1 := uniq_le (lst src dst m v)
  have h2 := seg_le (src := src) (dst := dst) (m := m) hv
  rw [ofs_eq hv (by omega), h.all.cell (by omega)]
  unfold zv
  rw [h.done v hv hv i hi]
end Go.Proofs.Qxb6000582a
