import Derived.Test.Qxb6000582aAdj
namespace Go.Proofs.Qxb6000582a
open Go.RowKit Go.Sort

theorem IsEnds.congr {w : World} {a : Option Addr} {len cap b off : Nat} {e0 e1 f0 f1 : Nat → Int} (h : IsEnds w a len cap b off e0 e1) (h0 : ∀ i, i < len → e0 i = f0 i) (h1 : ∀ i, i < len → e1 i = f1 i) : IsEnds w a len cap b off f0 f1 :=
  ⟨h.ix, fun i hi => by rw [← h0 i hi]; exact h.c0 i hi, fun i hi => by rw [← h1 i hi]; exact h.c1 i hi, h.low⟩

theorem IsInts.drewN {w : World} {a : Option Addr} {len cap b off : Nat} {zs : List Int} (h : IsInts w a len cap b off zs) (q : Nat) : IsInts (w.drewN q) a len cap b off zs := h.of_cells rfl

/-- Lists of rows of bools, v of them made. -/
structure E2 (L : Nat → List Int) (w2 wr : World) (n v gh : Nat) (hb : Nat → Nat) : Prop where
  hit : Row wr gh 38 n (fun u => if u < v then .slice (some ⟨hb u, 0, none⟩) (L u).length (L u).length else .slice none 0 0)
  rows : ∀ u, u < v → Row wr (hb u) 4 (L u).length (fun _ => .bool false)
  gt : ∀ u, u < v → gh < hb u
  mono : ∀ u u', u < u' → u' < v → hb u < hb u'
  lo : w2.heap.size ≤ gh
  bel : Below w2.heap.size w2 wr

theorem E2.first (L : Nat → List Int) (w2 : World) (n : Nat) (hb : Nat → Nat) : E2 L w2 (w2.alloc (.cells (madeCells #[.slice none 0 0] n) 38)) n 0 w2.heap.size hb :=
  ⟨(Row.made w2 _ n 38).congr (fun u _ => by rw [if_neg (by omega)]), fun u hu => absurd hu (Nat.not_lt_zero _), fun u hu => absurd hu (Nat.not_lt_zero _), fun u u' _ hu => absurd hu (Nat.not_lt_zero _), Nat.le_refl _, (Below.refl _ _).alloc (Nat.le_refl _) _⟩

theorem E2.drewN {L : Nat → List Int} {w2 wr : World} {n v gh : Nat} {hb : Nat → Nat} (h : E2 L w2 wr n v gh hb) (q : Nat) : E2 L w2 (wr.drewN q) n v gh hb :=
  ⟨h.hit.drewN q, fun u hu => (h.rows u hu).drewN q, h.gt, h.mono, h.lo, below_drewN h.bel q⟩

theorem E2.step {L : Nat → List Int} {w2 wr : World} {n v gh : Nat} {hb : Nat → Nat} (h : E2 L w2 wr n v gh hb) {c : Nat} (hc : (L v).length = c) :
    E2 L w2 ((wr.alloc (.cells (madeCells #[.bool false] c) 4)).setCell ⟨gh, v, none⟩ (.slice (some ⟨wr.heap.size, 0, none⟩) c c)) n (v + 1) gh (upd hb v wr.heap.size) := by
  have hlt := h.hit.lt
  refine ⟨((h.hit.alloc _).set v _).congr (fun u _ => ?_), fun u hu => ?_, fun u hu => ?_, fun u u' huu hu => ?_, h.lo, (h.bel.alloc h.bel.size _).setCell h.lo _⟩
  · unfold upd
    by_cases e : u = v
    · simp only [e, if_true]
      rw [if_pos (by omega), hc]
    · simp only [if_neg e]
      by_cases e2 : u < v
      · rw [if_pos e2, if_pos (by omega)]
      · rw [if_neg e2, if_neg (by omega)]
  · unfold upd
    by_cases e : u = v
    · rw [if_pos e, e, hc]
      exact (Row.made wr (.bool false) c 4).other (by show gh ≠ _; omega) _
    · rw [if_neg e]
      have := h.gt u (by omega)
      exact ((h.rows u (by omega)).alloc _).other (by show gh ≠ _; omega) _
  · unfold upd
    by_cases e : u = v
    · rw [if_pos e]; exact hlt
    · rw [if_neg e]; exact h.gt u (by omega)
  · unfold upd
    rw [if_neg (by omega)]
    by_cases e : u' = v
    · rw [if_pos e]; exact (h.rows u (by omega)).lt
    · rw [if_neg e]; exact h.mono u u' huu (by omega)

/-- The hits behind k ends. -/
structure E3 (src : Nat → Nat) (dst : Nat → Int) (L : Nat → List Int) (w2 wr : World) (n k gh : Nat) (hb : Nat → Nat) : Prop where
  hit : Row wr gh 38 n (fun u => .slice (some ⟨hb u, 0, none⟩) (L u).length (L u).length)
  rows : ∀ u, u < n → ∃ f : Nat → Bool, Row wr (hb u) 4 (L u).length (fun j => .bool (f j)) ∧ ∀ j, j < (L u).length → ∀ i, i < k → src i = u → dst i = (L u).getD j 0 → f j = true
  gt : ∀ u, u < n → gh < hb u
  apart : ∀ u u', u ≠ u' → u < n → u' < n → hb u ≠ hb u'
  lo : w2.heap.size ≤ gh
  bel : Below w2.heap.size w2 wr

theorem E2.last {src : Nat → Nat} {dst : Nat → Int} {L : Nat → List Int} {w2 wr : World} {n gh : Nat} {hb : Nat → Nat} (h : E2 L w2 wr n n gh hb) : E3 src dst L w2 wr n 0 gh hb :=
  ⟨h.hit.congr (fun u hu => if_pos hu), fun u hu => ⟨fun _ => false, h.rows u hu, fun j _ i hi => absurd hi (Nat.not_lt_zero _)⟩, h.gt, fun u u' hne h1 h2 => by
    rcases Nat.lt_or_gt_of_ne hne with h3 | h3
    · exact Nat.ne_of_lt (h.mono u u' h3 h2)
    · exact fun e => absurd e.symm (Nat.ne_of_lt (h.mono u' u h3 h1)), h.lo, h.bel⟩

theorem E3.drewN {src : Nat → Nat} {dst : Nat → Int} {L : Nat → List Int} {w2 wr : World} {n k gh : Nat} {hb : Nat → Nat} (h : E3 src dst L w2 wr n k gh hb) (q : Nat) : E3 src dst L w2 (wr.drewN q) n k gh hb :=
  ⟨h.hit.drewN q, fun u hu => h.rows u hu, h.gt, h.apart, h.lo, below_drewN h.bel q⟩

theorem E3.step {src : Nat → Nat} {dst : Nat → Int} {L : Nat → List Int} {w2 wr : World} {n k gh : Nat} {hb : Nat → Nat} (h : E3 src dst L w2 wr n k gh hb) (hA : ∀ u, Asc (L u)) {s j0 : Nat} (hs : src k = s) (hsn : s < n) (hj0 : j0 < (L s).length) (hd : (L s).getD j0 0 = dst k) {g : Nat} (hg : hb s = g) :
    E3 src dst L w2 (wr.setCell ⟨g, j0, none⟩ (.bool true)) n (k + 1) gh hb := by
  have hgt := h.gt s hsn
  refine ⟨h.hit.other (by show g ≠ _; omega) _, fun u hu => ?_, h.gt, h.apart, h.lo, h.bel.setCell (by have := h.lo; show _ ≤ g; omega) _⟩
  obtain ⟨f, h1, h2⟩ := h.rows u hu
  by_cases e : u = s
  · refine ⟨upd f j0 true, ?_, fun j hj i hi hsi hdi => ?_⟩
    · rw [e, hg] at h1 ⊢
      refine (h1.set j0 _).congr (fun j _ => ?_)
      unfold upd
      by_cases e2 : j = j0
      · simp [e2]
      · simp [e2]
    · unfold upd
      by_cases e2 : j = j0
      · rw [if_pos e2]
      · rw [if_neg e2]
        by_cases e3 : i = k
        · exfalso
          rw [e3, ← hd, e] at hdi
          rw [e] at hj
          rcases Nat.lt_or_gt_of_ne e2 with h3 | h3
          · have := hA s j j0 h3 hj0; omega
          · have := hA s j0 j h3 hj; omega
        · exact h2 j hj i (by omega) hsi hdi
  · refine ⟨f, h1.other (by show g ≠ hb u; rw [← hg]; exact h.apart s u (fun h => e h.symm) hsn hu) _, fun j hj i hi hsi hdi => ?_⟩
    by_cases e3 : i = k
    · rw [e3, hs] at hsi; exact absurd hsi.symm e
    · exact h2 j hj i (by omega) hsi hdi

/-- At the end each place is hit. -/
theorem E3.all {src : Nat → Nat} {dst : Nat → Int} {w2 wr : World} {n m gh : Nat} {hb : Nat → Nat} (h : E3 src dst (fun u => uniq (lst src dst m u)) w2 wr n m gh hb) {u : Nat} (hu : u < n) {j : Nat} (hj : j < (uniq (lst src dst m u)).length) : wr.cell? ⟨hb u, j, none⟩ = some (.bool true) := by
  obtain ⟨f, h1, h2⟩ := h.rows u hu
  rw [h1.cell hj]
  have hm : (uniq (lst src dst m u)).getD j 0 ∈ uniq (lst src dst m u) := by
    rw [List.getD_eq_getElem?_getD, List.getElem?_eq_getElem hj]
    exact List.getElem_mem hj
  obtain ⟨i, hi, hs, hd⟩ := (mem_lst _ u m).1 ((uniq_mem _ _).1 hm)
  rw [h2 j hj i hi hs hd]

theorem Lists.below {src : Nat → Nat} {dst : Nat → Int} {w1 w2 wr : World} {n m ga gl : Nat} (h : Lists src dst w1 w2 n m ga gl) (hb : Below w2.heap.size w2 wr) : Lists src dst w1 wr n m ga gl :=
  ⟨h.lists.below hb h.lists.lt, fun v hv => (h.ints v hv).of_cells (hb.block ga h.lta), h.lt1, h.lt2, Nat.lt_of_lt_of_le h.lta hb.size, h.bel.trans (hb.mono h.bel.size)⟩
end Go.Proofs.Qxb6000582a
