import Derived.Test.Qxb6000541aSite
namespace Go.Proofs.Qxb6000541a
open Go.RowKit Go.Maps

/-- What the law itself records: (scope, (domain, tax, code)). -/
def recL (R : List (ByteArray × (ByteArray × (Int × ByteArray)))) : List (ByteArray × (ByteArray ⊕ (Int × ByteArray))) := R.map fun r => (r.1, blkKey r.2.1 r.2.2.1 r.2.2.2)
def recCells (R : List (ByteArray × (ByteArray × (Int × ByteArray)))) : List Value := R.flatMap fun r => [.string r.2.1, .int .i64 r.2.2.1, .string r.2.2.2]

theorem recCells_length : ∀ R, (recCells R).length = R.length * 3
  | [] => rfl
  | r :: R => by
    show ([Value.string r.2.1, .int .i64 r.2.2.1, .string r.2.2.2] ++ recCells R).length = _
    rw [List.length_append, recCells_length R]
    simp
    omega

theorem recCells_at : ∀ (R : List (ByteArray × (ByteArray × (Int × ByteArray)))) (j : Nat) r, R[j]? = some r →
    (recCells R)[3 * j]? = some (.string r.2.1) ∧ (recCells R)[3 * j + 1]? = some (.int .i64 r.2.2.1) ∧ (recCells R)[3 * j + 2]? = some (.string r.2.2.2)
  | [], j, r, h => by simp at h
  | x :: R, 0, r, h => by
    simp at h
    subst h
    exact ⟨rfl, rfl, rfl⟩
  | x :: R, j + 1, r, h => by
    have ih := recCells_at R j r (by simpa using h)
    have e : recCells (x :: R) = [Value.string x.2.1, .int .i64 x.2.2.1, .string x.2.2.2] ++ recCells R := rfl
    rw [e, List.getElem?_append_right (by simp; omega), List.getElem?_append_right (by simp; omega), List.getElem?_append_right (by simp; omega)]
    simp only [List.length_cons, List.length_nil]
    rw [show 3 * (j + 1) - (0 + 1 + 1 + 1) = 3 * j from by omega, show 3 * (j + 1) + 1 - (0 + 1 + 1 + 1) = 3 * j + 1 from by omega, show 3 * (j + 1) + 2 - (0 + 1 + 1 + 1) = 3 * j + 2 from by omega]
    exact ih

theorem recCells_snoc (R : List (ByteArray × (ByteArray × (Int × ByteArray)))) (r) : recCells (R ++ [r]) = recCells R ++ [.string r.2.1, .int .i64 r.2.2.1, .string r.2.2.2] := by
  simp [recCells, List.flatMap_append]
theorem recL_snoc (R : List (ByteArray × (ByteArray × (Int × ByteArray)))) (r) : recL (R ++ [r]) = recL R ++ [(r.1, blkKey r.2.1 r.2.2.1 r.2.2.2)] := by
  simp [recL]

theorem index37 (g len cap i : Nat) (hi : i < len) (w : World) : (Instr.indexAt 37 (.slice (some ⟨g, 0, none⟩) len cap) (.int .i64 i)).run Try.prog w = .ok (.pointer (some ⟨g, 3 * i, none⟩)) w := by
  have hs : ∀ w, (sizeOf 41).run Try.prog w = .ok 3 w := fun w => by kernel_rfl
  have he : Try.prog.elem 37 = 41 := by kernel_rfl
  rw [run_indexAt_slice (h := by rw [he]; exact Try.underlying37), if_pos (by omega), he, hs]
  simp only [Result.andThen_ok, Int.toNat_natCast]
  congr 3
  unfold Addr.add
  split
  · rename_i h
    have : i = 0 := by omega
    subst this; rfl
  · simp [Nat.mul_comm]

theorem info9 : (Try.prog.info? 9).map (fun i => (i.zero, i.size, i.bytes)) = some (some (.string ByteArray.empty), 1, 16) := by kernel_rfl
def z41 : Value := .agg #[.string ByteArray.empty, .int .i64 0, .string ByteArray.empty]
theorem info41 : (Try.prog.info? 41).map (fun i => (i.zero, i.size, i.bytes)) = some (some z41, 3, 40) := by kernel_rfl

/-- A slice of strings that the law itself has made. -/
theorem isStrs_row {w : World} {B : Nat} {a : Option Addr} {n cap : Nat} {ss : List ByteArray} (h : w.ownsRow B 9 1 (.slice a n cap) n (ss.map .string)) (hs : ∀ s ∈ ss, s.size ≤ maxLen) : ∃ b, IsStrs w a n cap b 0 ss := by
  have hl := h.1
  simp at hl
  have hsm : ∀ i, (ss.getD i ByteArray.empty).size ≤ maxLen := fun i => by
    rw [List.getD_eq_getElem?_getD]
    cases hi : ss[i]? with
    | none => simp
    | some s => exact hs s (List.mem_of_getElem? hi)
  rcases h.2 with ⟨hv, hn⟩ | ⟨g, cap', cur, hv, hg, hh, hcap, hmax, hsz, hx⟩
  · subst hn
    exact ⟨0, hl, Nat.zero_le _, hsm, fun i hi => by omega, fun i hi => by omega, fun hi => by omega⟩
  · cases hv
    refine ⟨g, hl, by omega, hsm, fun i hi w' => by simpa using index22 g 0 n cap i hi w', fun i hi => ?_, fun _ => lt_of_heap hh⟩
    have : (ss.map Value.string)[i]? = some (.string (ss.getD i ByteArray.empty)) := by
      rw [List.getElem?_map, List.getD_eq_getElem?_getD, List.getElem?_eq_getElem (by omega)]; rfl
    rw [← hx, List.getElem?_take, if_pos (by omega)] at this
    exact (free_of_row hh (by simpa using this)).cell

/-- A recorded block, read back. -/
theorem rec_at {w : World} {B : Nat} {a : Option Addr} {cap : Nat} {R : List (ByteArray × (ByteArray × (Int × ByteArray)))} (h : w.ownsRow B 41 3 (.slice a R.length cap) R.length (recCells R)) {j : Nat} {r : ByteArray × (ByteArray × (Int × ByteArray))} (hj : R[j]? = some r) :
    ∃ g, (∀ w, (Instr.indexAt 37 (.slice a R.length cap) (.int .i64 j)).run Try.prog w = .ok (.pointer (some ⟨g, 3 * j, none⟩)) w) ∧ w.cell? ⟨g, 3 * j, none⟩ = some (.string r.2.1) ∧ w.cell? ⟨g, 3 * j + 1, none⟩ = some (.int .i64 r.2.2.1) ∧ w.cell? ⟨g, 3 * j + 1 + 1, none⟩ = some (.string r.2.2.2) := by
  have hjl : j < R.length := (List.getElem?_eq_some_iff.1 hj).1
  obtain ⟨e0, e1, e2⟩ := recCells_at R j r hj
  rcases h.2 with ⟨_, hn⟩ | ⟨g, cap', cur, hv, hg, hh, hcap, hmax, hsz, hx⟩
  · omega
  · cases hv
    have hget : ∀ i v, i < R.length * 3 → (recCells R)[i]? = some v → w.cell? ⟨g, i, none⟩ = some v := fun i v hi hv => by
      rw [← hx, List.getElem?_take, if_pos hi] at hv
      exact (free_of_row hh (by simpa using hv)).cell
    exact ⟨g, fun w => index37 g R.length cap j hjl w, hget _ _ (by omega) e0, hget _ _ (by omega) e1, hget _ _ (by omega) e2⟩

/-- What holds while the law records: the mirror's blocks L, the law's own two lists R. -/
structure BSt (w wr : World) (pb sm ds cs : Nat) (T : List Sc) (rs rb : Value) (R : List (ByteArray × (ByteArray × (Int × ByteArray)))) (L : List (ByteArray × (ByteArray ⊕ (Int × ByteArray)))) (n : Nat) : Prop where
  mir : AMir wr w.heap.size pb sm ds cs T L n
  rows : wr.ownsRow w.heap.size 9 1 rs R.length ((R.map Prod.fst).map .string)
  rowb : wr.ownsRow w.heap.size 41 3 rb R.length (recCells R)
  small : ∀ r ∈ R, r.1.size ≤ maxLen
  below : Below w.heap.size w wr

theorem BSt.of_blocks {w wr w' : World} {pb sm ds cs n : Nat} {T : List Sc} {rs rb : Value} {R : List (ByteArray × (ByteArray × (Int × ByteArray)))} {L : List (ByteArray × (ByteArray ⊕ (Int × ByteArray)))} (h : BSt w wr pb sm ds cs T rs rb R L n) (hb : ∀ k, k < wr.heap.size → w'.heap[k]? = wr.heap[k]?) (hbl : Below w.heap.size wr w') : BSt w w' pb sm ds cs T rs rb R L n :=
  ⟨h.mir.of_blocks (fun k hk _ => hb k hk), ownsRow_of_block h.rows (fun k hk => hb k (lt_of_heap (ownsRow_block h.rows hk).2.choose_spec)), ownsRow_of_block h.rowb (fun k hk => hb k (lt_of_heap (ownsRow_block h.rowb hk).2.choose_spec)), h.small, h.below.trans hbl⟩
theorem BSt.drewN {w wr : World} {pb sm ds cs n : Nat} {T : List Sc} {rs rb : Value} {R : List (ByteArray × (ByteArray × (Int × ByteArray)))} {L : List (ByteArray × (ByteArray ⊕ (Int × ByteArray)))} (h : BSt w wr pb sm ds cs T rs rb R L n) (m : Nat) : BSt w (wr.drewN m) pb sm ds cs T rs rb R L n :=
  h.of_blocks (fun _ _ => rfl) ⟨rfl, rfl, rfl, Nat.le_refl _, fun _ _ => rfl⟩
theorem BSt.drew {w wr : World} {pb sm ds cs n : Nat} {T : List Sc} {rs rb : Value} {R : List (ByteArray × (ByteArray × (Int × ByteArray)))} {L : List (ByteArray × (ByteArray ⊕ (Int × ByteArray)))} (h : BSt w wr pb sm ds cs T rs rb R L n) : BSt w wr.drew pb sm ds cs T rs rb R L n :=
  h.of_blocks (fun _ _ => rfl) ⟨rfl, rfl, rfl, Nat.le_refl _, fun _ _ => rfl⟩
theorem BSt.alloc {w wr : World} {pb sm ds cs n : Nat} {T : List Sc} {rs rb : Value} {R : List (ByteArray × (ByteArray × (Int × ByteArray)))} {L : List (ByteArray × (ByteArray ⊕ (Int × ByteArray)))} (h : BSt w wr pb sm ds cs T rs rb R L n) (o : Obj) : BSt w (wr.alloc o) pb sm ds cs T rs rb R L n :=
  h.of_blocks (fun k hk => Below.heap_alloc wr o k hk) ((Below.refl _ _).alloc h.below.size o)

/-- Behind the call of ZZAddBlock. -/
theorem BSt.asked {w wr w1 : World} {pb sm ds cs n n' : Nat} {T : List Sc} {rs rb : Value} {R : List (ByteArray × (ByteArray × (Int × ByteArray)))} {L L' : List (ByteArray × (ByteArray ⊕ (Int × ByteArray)))} (h : BSt w wr pb sm ds cs T rs rb R L n) (hM : AMir w1 w.heap.size pb sm ds cs T L' n') (hK : Kept w.heap.size wr w1) : BSt w w1 pb sm ds cs T rs rb R L' n' :=
  ⟨hM, hK.row h.rows (by decide) (by decide) (by decide), hK.row h.rowb (by decide) (by decide) (by decide), h.small, h.below.trans (hK.below h.below.size)⟩

theorem AMir.grown {w w' : World} {B pb sm ds cs n : Nat} {T : List Sc} {L : List (ByteArray × (ByteArray ⊕ (Int × ByteArray)))} (h : AMir w B pb sm ds cs T L n) {row : Option Nat} (hg : w.grownBy w' row) (hr : ∀ k, row = some k → ∃ x e z, w.heap[k]? = some (.cells x e z) ∧ (e = 9 ∨ e = 41)) : AMir w' B pb sm ds cs T L n := by
  have hmap : ∀ {k : Nat} {es : Array MapEntry} {ck : Nat}, w.heap[k]? = some (.map es ck) → w'.heap[k]? = w.heap[k]? := fun {k es ck} hk => hg.block k (lt_of_heap hk) (fun e => by
    obtain ⟨x, e', z, hc, _⟩ := hr k e.symm
    rw [hk] at hc; cases hc)
  have hcell : ∀ {k : Nat} {x : Array Value} {e : TypeId} {z : Nat × Nat}, w.heap[k]? = some (.cells x e z) → (e = 60 ∨ e = 81) → w'.heap[k]? = w.heap[k]? := fun {k x e z} hk he => hg.block k (lt_of_heap hk) (fun e1 => by
    obtain ⟨x', e', z', hc, he'⟩ := hr k e1.symm
    rw [hk] at hc; cases hc
    rcases he with rfl | rfl <;> rcases he' with h | h <;> cases h)
  have hmb : ∀ {k m : Nat} {t : TypeId} {f : Value → Option Value}, MapIs w t k m f → MapIs w' t k m f := fun hm => by
    obtain ⟨es, ck, hb⟩ := hm.block
    exact hm.of_block (hmap hb)
  obtain ⟨lp, ls, ld, lc, hnd, hnm, ⟨c1, cv, c3, bd, bc, c6, hblk⟩, hscs, hhome, ⟨N, hN, hsites⟩, hds, hcs⟩ := h
  refine ⟨lp, ls, ld, lc, hnd, hnm, ⟨c1, cv, c3, bd, bc, c6, (hcell hblk (.inl rfl)).trans hblk⟩, fun c hc => ?_, hhome, ⟨N, hN, hmb hsites⟩, hmb hds, hmb hcs⟩
  have k := hscs c hc
  obtain ⟨x, e, z, hlb, he⟩ := k.tag
  have e1 := hcell hlb he
  exact ⟨k.top, k.site, k.low, k.lowD, k.lowC, (World.cell?_of_block e1).trans k.cell0, (World.cell?_of_block e1).trans k.cell1, hmb k.dom, hmb k.cat, tag_of k.tag e1⟩

theorem BSt.app1 {w wr w5 : World} {pb sm ds cs n : Nat} {T : List Sc} {rs rb : Value} {R : List (ByteArray × (ByteArray × (Int × ByteArray)))} {L : List (ByteArray × (ByteArray ⊕ (Int × ByteArray)))} (h : BSt w wr pb sm ds cs T rs rb R L n) {o1 : Obj} (hg1 : (wr.alloc o1).grownBy w5 rs.ownBlock) :
    AMir w5 w.heap.size pb sm ds cs T L n ∧ w5.ownsRow w.heap.size 41 3 rb R.length (recCells R) ∧ Below w.heap.size wr w5 ∧ (∀ (k : Nat) (x : Array Value) (z : Nat × Nat), wr.heap[k]? = some (Obj.cells x 41 z) → w5.heap[k]? = some (Obj.cells x 41 z)) := by
  have hk41 : ∀ (k : Nat) (x : Array Value) (z : Nat × Nat), wr.heap[k]? = some (Obj.cells x 41 z) → w5.heap[k]? = some (Obj.cells x 41 z) := fun k x z hk => by
    rw [hg1.block k (lt_of_heap (heap_a hk)) (fun e => ?_), heap_a hk]
    obtain ⟨_, cur, hc⟩ := ownsRow_block h.rows e.symm
    rw [hk] at hc; cases hc
  have b5 : Below w.heap.size wr w5 := ((Below.refl _ wr).alloc h.below.size o1).grown hg1 (by have := h.below.size; simp; omega) (fun k hk => (ownsRow_block h.rows hk).1)
  refine ⟨(h.mir.alloc o1).grown hg1 (fun k hk => ?_), ownsRow_of_block h.rowb (fun b hb => ?_), b5, hk41⟩
  · obtain ⟨_, cur, hc⟩ := ownsRow_block h.rows hk
    exact ⟨cur, 9, _, heap_a hc, .inl rfl⟩
  · obtain ⟨_, cur, hc⟩ := ownsRow_block h.rowb hb
    rw [hk41 b _ _ hc, hc]

theorem BSt.apps {w wr w5 w6 : World} {pb sm ds cs n : Nat} {T : List Sc} {rs rb : Value} {R : List (ByteArray × (ByteArray × (Int × ByteArray)))} {L : List (ByteArray × (ByteArray ⊕ (Int × ByteArray)))} (h : BSt w wr pb sm ds cs T rs rb R L n) {s d co : ByteArray} {tx : Int} (hs : s.size ≤ maxLen) {o1 o2 : Obj} {g1 p1 g2 p2 : Nat}
    (r1 : w5.ownsRow w.heap.size 9 1 (.slice (some ⟨g1, 0, none⟩) (R.length + 1) p1) (R.length + 1) ((R.map Prod.fst).map .string ++ [.string s])) (hg1 : (wr.alloc o1).grownBy w5 rs.ownBlock)
    (r2 : w6.ownsRow w.heap.size 41 3 (.slice (some ⟨g2, 0, none⟩) (R.length + 1) p2) (R.length + 1) (recCells R ++ [.string d, .int .i64 tx, .string co])) (hg2 : (w5.alloc o2).grownBy w6 rb.ownBlock) :
    BSt w w6 pb sm ds cs T (.slice (some ⟨g1, 0, none⟩) (R.length + 1) p1) (.slice (some ⟨g2, 0, none⟩) (R.length + 1) p2) (R ++ [(s, (d, (tx, co)))]) L n ∧
      (∀ (k : Nat) (x : Array Value) (e : TypeId) (z : Nat × Nat), w5.heap[k]? = some (Obj.cells x e z) → rb.ownBlock ≠ some k → w6.heap[k]? = some (Obj.cells x e z)) := by
  obtain ⟨hm5, hb5, bl5, _⟩ := h.app1 hg1
  have hk6 : ∀ (k : Nat) (x : Array Value) (e : TypeId) (z : Nat × Nat), w5.heap[k]? = some (Obj.cells x e z) → rb.ownBlock ≠ some k → w6.heap[k]? = some (Obj.cells x e z) := fun k x e z hk hne => by
    rw [hg2.block k (lt_of_heap (heap_a hk)) (Ne.symm hne), heap_a hk]
  have b5 : Below w.heap.size w w5 := h.below.trans bl5
  refine ⟨⟨(hm5.alloc o2).grown hg2 (fun k hk => ?_), ?_, ?_, fun r hr => ?_, (b5.alloc b5.size o2).grown hg2 (by have := b5.size; simp; omega) (fun k hk => (ownsRow_block hb5 hk).1)⟩, hk6⟩
  · obtain ⟨_, cur, hc⟩ := ownsRow_block hb5 hk
    exact ⟨cur, 41, _, heap_a hc, .inr rfl⟩
  · have : w6.ownsRow w.heap.size 9 1 (.slice (some ⟨g1, 0, none⟩) (R.length + 1) p1) (R.length + 1) ((R.map Prod.fst).map .string ++ [.string s]) := ownsRow_of_block r1 (fun b hb => by
      obtain ⟨_, cur, hc⟩ := ownsRow_block r1 hb
      rw [hk6 b _ _ _ hc (fun e => ?_), hc]
      obtain ⟨_, cur', hc'⟩ := ownsRow_block hb5 e
      rw [hc] at hc'; cases hc')
    simpa using this
  · rw [recCells_snoc]
    simpa using r2
  · simp at hr
    rcases hr with hr | rfl
    · exact h.small r hr
    · exact hs

/-- The block stands somewhere. -/
def anyB (L : List (ByteArray × (ByteArray ⊕ (Int × ByteArray)))) (k : ByteArray ⊕ (Int × ByteArray)) : Bool := decide (cntL L k ≠ 0)
/-- The block stands at the scope. -/
def atB (L : List (ByteArray × (ByteArray ⊕ (Int × ByteArray)))) (s : ByteArray) (k : ByteArray ⊕ (Int × ByteArray)) : Bool := hasL L s k

theorem take_snoc {α : Type} (l : List α) {m : Nat} {x : α} (h : l[m]? = some x) : l.take (m + 1) = l.take m ++ [x] := by
  obtain ⟨hm, e⟩ := List.getElem?_eq_some_iff.1 h
  rw [List.take_succ_eq_append_getElem hm, e]

theorem atB_hit {L : List (ByteArray × (ByteArray ⊕ (Int × ByteArray)))} {m : Nat} {s : ByteArray} {k : ByteArray ⊕ (Int × ByteArray)} (h : L[m]? = some (s, k)) : atB (L.take (m + 1)) s k = true := by
  rw [take_snoc L h]; simp [atB, hasL_snoc]
theorem atB_miss {L : List (ByteArray × (ByteArray ⊕ (Int × ByteArray)))} {m : Nat} {s s' : ByteArray} {k k' : ByteArray ⊕ (Int × ByteArray)} (h : L[m]? = some (s', k')) (hne : s' ≠ s ∨ k' ≠ k) : atB (L.take (m + 1)) s k = atB (L.take m) s k := by
  rw [take_snoc L h]
  rcases hne with h | h <;> simp [atB, hasL_snoc, h]
theorem anyB_hit {L : List (ByteArray × (ByteArray ⊕ (Int × ByteArray)))} {m : Nat} {s : ByteArray} {k : ByteArray ⊕ (Int × ByteArray)} (h : L[m]? = some (s, k)) : anyB (L.take (m + 1)) k = true := by
  rw [take_snoc L h]; simp [anyB, cntL_snoc]
theorem anyB_miss {L : List (ByteArray × (ByteArray ⊕ (Int × ByteArray)))} {m : Nat} {s' : ByteArray} {k k' : ByteArray ⊕ (Int × ByteArray)} (h : L[m]? = some (s', k')) (hne : k' ≠ k) : anyB (L.take (m + 1)) k = anyB (L.take m) k := by
  rw [take_snoc L h]; simp [anyB, cntL_snoc, hne]

end Go.Proofs.Qxb6000541a
