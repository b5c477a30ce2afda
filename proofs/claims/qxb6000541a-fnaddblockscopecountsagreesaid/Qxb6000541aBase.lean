import Derived.Test.Qxb6000541aMapIs
import Derived.Test.Qxb6000541aStr
import Derived.Deep.QuietTactic
import Derived.BigQuiet
import Derived.Deep.AppendLies
namespace Go.Proofs.Qxb6000541a
open Go.RowKit Go.Maps

theorem lt_of_heap {w : World} {b : Nat} {o : Obj} (h : w.heap[b]? = some o) : b < w.heap.size := (Array.getElem?_eq_some_iff.1 h).1

theorem lt_of_cell {w : World} {a : Addr} {v : Value} (h : w.cell? a = some v) : a.block < w.heap.size := by
  rcases Nat.lt_or_ge a.block w.heap.size with h1 | h1
  · exact h1
  · simp [World.cell?, Array.getElem?_eq_none h1] at h

theorem cell_a {w : World} {o : Obj} {a : Addr} {v : Value} (h : w.cell? a = some v) : (w.alloc o).cell? a = some v := by
  rw [World.cell?_of_block (w := w) (Below.heap_alloc w o a.block (lt_of_cell h))]
  exact h
theorem cell_d {w : World} {a : Addr} {v : Value} (h : w.cell? a = some v) : w.drew.cell? a = some v := h

/-- A cell that is there and not frozen. -/
structure Free (w : World) (a : Addr) (v : Value) : Prop where
  cell : w.cell? a = some v
  free : w.frozen? a = false
theorem Free.of_block {w w' : World} {a : Addr} {v : Value} (h : Free w a v) (hb : w'.heap[a.block]? = w.heap[a.block]?) : Free w' a v :=
  ⟨(World.cell?_of_block hb).trans h.cell, (World.frozen?_of_block hb).trans h.free⟩
theorem Free.alloc {w : World} {a : Addr} {v : Value} (h : Free w a v) {o : Obj} : Free (w.alloc o) a v := h.of_block (Below.heap_alloc w o a.block (lt_of_cell h.cell))
theorem Free.drew {w : World} {a : Addr} {v : Value} (h : Free w a v) : Free w.drew a v := ⟨h.cell, h.free⟩
theorem Free.grown {w w' : World} {row : Option Nat} {a : Addr} {v : Value} (h : Free w a v) (hg : w.grownBy w' row) (hne : some a.block ≠ row) : Free w' a v := h.of_block (hg.block a.block (lt_of_cell h.cell) hne)

/-- A cell of a block that is known whole. -/
theorem free_of_row {w : World} {b : Nat} {cs : Array Value} {e : TypeId} (h : w.heap[b]? = some (.cells cs e (0, 0))) {o : Nat} {v : Value} (hv : cs[o]? = some v) : Free w ⟨b, o, none⟩ v := by
  constructor
  · simp [World.cell?, h, hv]
  · simp [World.frozen?, h]

theorem heap_setCell_same {w : World} {b o : Nat} {cs : Array Value} {e : TypeId} {z : Nat × Nat} (h : w.heap[b]? = some (.cells cs e z)) (v : Value) : (w.setCell ⟨b, o, none⟩ v).heap[b]? = some (.cells (cs.setIfInBounds o v) e z) := by
  show (w.heap.modify b _)[b]? = _
  rw [Array.getElem?_modify, if_pos rfl, h]
  rfl

/-- A block from B on of the kinds that the mirror is made of: a map, or cells of the structs 60 (pubMirror), 67 (creativeMirror), 81 (siteMirror). -/
def Mine (w : World) (B k : Nat) : Prop := B ≤ k ∧ ((∃ es c, w.heap[k]? = some (.map es c)) ∨ ∃ x e z, w.heap[k]? = some (.cells x e z) ∧ (e = 60 ∨ e = 67 ∨ e = 81))

theorem Mine.of_block {w w' : World} {B k : Nat} (h : w'.heap[k]? = w.heap[k]?) : Mine w' B k ↔ Mine w B k := by unfold Mine; rw [h]

/-- Nothing but the mirror's own blocks has turned. -/
structure Kept (B : Nat) (w w' : World) : Prop where
  os : w'.os = w.os
  tape : w'.tape = w.tape
  output : w'.output = w.output
  size : w.heap.size ≤ w'.heap.size
  block : ∀ k, k < w.heap.size → ¬ Mine w B k → w'.heap[k]? = w.heap[k]?

theorem Kept.refl (B : Nat) (w : World) : Kept B w w := ⟨rfl, rfl, rfl, Nat.le_refl _, fun _ _ _ => rfl⟩
theorem Kept.trans {B : Nat} {a b c : World} (h : Kept B a b) (k : Kept B b c) : Kept B a c :=
  ⟨k.os.trans h.os, k.tape.trans h.tape, k.output.trans h.output, Nat.le_trans h.size k.size, fun i hi hm => by
    have e := h.block i hi hm
    exact (k.block i (Nat.lt_of_lt_of_le hi h.size) (fun hc => hm ((Mine.of_block e).1 hc))).trans e⟩
theorem Kept.alloc {B : Nat} {a w : World} (h : Kept B a w) (o : Obj) : Kept B a (w.alloc o) :=
  h.trans ⟨rfl, rfl, rfl, by simp, fun k hk _ => Below.heap_alloc _ _ _ hk⟩
theorem Kept.drew {B : Nat} {a w : World} (h : Kept B a w) : Kept B a w.drew := ⟨h.os, h.tape, h.output, h.size, h.block⟩
theorem Kept.drewN {B : Nat} {a w : World} (h : Kept B a w) (n : Nat) : Kept B a (w.drewN n) := ⟨h.os, h.tape, h.output, h.size, h.block⟩
theorem Kept.grown {B : Nat} {a w w' : World} {row : Option Nat} (h : Kept B a w) (hg : w.grownBy w' row) (hr : ∀ k, row = some k → Mine w B k) : Kept B a w' :=
  h.trans ⟨hg.os, hg.tape, hg.output, hg.size, fun k hk hm => hg.block k hk (fun e => hm (hr k e.symm))⟩
theorem Kept.setCell {B : Nat} {a w : World} (h : Kept B a w) {p : Addr} (hp : Mine w B p.block) (u : Value) : Kept B a (w.setCell p u) :=
  h.trans ⟨rfl, rfl, rfl, by simp [World.setCell], fun k _ hm => Below.heap_setCell _ _ _ _ (fun e => hm (e ▸ hp))⟩
theorem Kept.below {B : Nat} {w w' : World} (h : Kept B w w') (hB : B ≤ w.heap.size) : Below B w w' :=
  ⟨h.os, h.tape, h.output, h.size, fun k hk => h.block k (Nat.lt_of_lt_of_le hk hB) (fun hm => by have := hm.1; omega)⟩

theorem Mine.map {w : World} {B k : Nat} (hB : B ≤ k) {es : Array MapEntry} {c : Nat} (h : w.heap[k]? = some (.map es c)) : Mine w B k := ⟨hB, .inl ⟨es, c, h⟩⟩
theorem Mine.cells {w : World} {B k : Nat} (hB : B ≤ k) {x : Array Value} {e : TypeId} {z : Nat × Nat} (h : w.heap[k]? = some (.cells x e z)) (he : e = 60 ∨ e = 67 ∨ e = 81) : Mine w B k := ⟨hB, .inr ⟨x, e, z, h, he⟩⟩
/-- A block of cells of another type is none of the mirror's. -/
theorem not_mine {w : World} {B k : Nat} {x : Array Value} {e : TypeId} {z : Nat × Nat} (h : w.heap[k]? = some (.cells x e z)) (h1 : e ≠ 60) (h2 : e ≠ 67) (h3 : e ≠ 81) : ¬ Mine w B k := by
  rintro ⟨_, ⟨es, c, hm⟩ | ⟨x', e', z', hc, he⟩⟩
  · rw [h] at hm; cases hm
  · rw [h] at hc; cases hc; rcases he with he | he | he <;> contradiction

/-- A slice that the law owns (of another element type) stays as it is. -/
theorem Kept.row {B B0 : Nat} {w w' : World} (h : Kept B w w') {e : TypeId} {size : Nat} {v : Value} {n : Nat} {xs : List Value} (ho : w.ownsRow B0 e size v n xs) (h1 : e ≠ 60) (h2 : e ≠ 67) (h3 : e ≠ 81) : w'.ownsRow B0 e size v n xs := by
  obtain ⟨hl, ho⟩ := ho
  refine ⟨hl, ?_⟩
  rcases ho with ho | ⟨g, cap, cur, hv, hg, hh, r⟩
  · exact .inl ho
  · exact .inr ⟨g, cap, cur, hv, hg, (h.block g (lt_of_heap hh) (not_mine hh h1 h2 h3)).trans hh, r⟩

theorem ownsRow_form {w : World} {B : Nat} {e : TypeId} {size : Nat} {v : Value} {n : Nat} {xs : List Value} (h : w.ownsRow B e size v n xs) : ∃ a cap, v = .slice a n cap := by
  rcases h.2 with ⟨hv, rfl⟩ | ⟨g, cap, cur, hv, _⟩
  · exact ⟨_, _, hv⟩
  · exact ⟨_, _, hv⟩

theorem ownsRow_block {w : World} {B : Nat} {e : TypeId} {size : Nat} {v : Value} {n : Nat} {xs : List Value} (h : w.ownsRow B e size v n xs) {k : Nat} (hk : v.ownBlock = some k) : B ≤ k ∧ ∃ cur, w.heap[k]? = some (.cells cur e (0, 0)) := by
  rcases h.2 with ⟨rfl, rfl⟩ | ⟨g, cap, cur, rfl, hg, hh, r⟩
  · simp [Value.ownBlock] at hk
  · simp [Value.ownBlock] at hk; subst hk; exact ⟨hg, cur, hh⟩

theorem ownsRow_of_block {w w' : World} {B : Nat} {e : TypeId} {size : Nat} {v : Value} {n : Nat} {xs : List Value} (h : w.ownsRow B e size v n xs) (hb : ∀ k, v.ownBlock = some k → w'.heap[k]? = w.heap[k]?) : w'.ownsRow B e size v n xs := by
  obtain ⟨hl, ho⟩ := h
  refine ⟨hl, ?_⟩
  rcases ho with ho | ⟨g, cap, cur, hv, hg, hh, r⟩
  · exact .inl ho
  · exact .inr ⟨g, cap, cur, hv, hg, (hb g (by rw [hv]; rfl)).trans hh, r⟩

theorem heap_a {w : World} {o x : Obj} {b : Nat} (h : w.heap[b]? = some x) : (w.alloc o).heap[b]? = some x := (Below.heap_alloc w o b (lt_of_heap h)).trans h

end Go.Proofs.Qxb6000541a
