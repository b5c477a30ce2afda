import Derived.Test.Qxb6000541aCnt
import Derived.Test.Qxb6000541aScl
import Derived.Test.Qxb6000541aZz23
namespace Go.Proofs.Qxb6000541a
open Go.RowKit Go.Maps

/-- The k-th call of the script. -/
def opAt (s2 s3 : List ByteArray) (z4 : List Int) (s5 : List ByteArray) (k : Nat) : ByteArray × (ByteArray ⊕ (Int × ByteArray)) :=
  (s2.getD k ByteArray.empty, blkKey (s3.getD k ByteArray.empty) (z4.getD k 0) (s5.getD k ByteArray.empty))

def recKeys (R : List (ByteArray × (ByteArray × (Int × ByteArray)))) : List (ByteArray ⊕ (Int × ByteArray)) := R.map fun r => blkKey r.2.1 r.2.2.1 r.2.2.2

theorem ownsRow_base {w : World} {B B' : Nat} (hB : B' ≤ B) {e : TypeId} {size : Nat} {v : Value} {n : Nat} {xs : List Value} (h : w.ownsRow B e size v n xs) : w.ownsRow B' e size v n xs := by
  obtain ⟨h1, h2⟩ := h
  refine ⟨h1, ?_⟩
  rcases h2 with h2 | ⟨g, cap, cur, hv, hg, r⟩
  · exact .inl h2
  · exact .inr ⟨g, cap, cur, hv, Nat.le_trans hB hg, r⟩

/-- What holds in the second half: the mirror, the list of scopes, the different blocks so far. -/
structure CSt (w wr : World) (pb sm ds cs : Nat) (T : List Sc) (L : List (ByteArray × (ByteArray ⊕ (Int × ByteArray)))) (n : Nat) (sv : Value) (sc : List ByteArray) (rb : Value) (R : List (ByteArray × (ByteArray × (Int × ByteArray)))) : Prop where
  mir : AMir wr w.heap.size pb sm ds cs T L n
  sc : wr.ownsRow w.heap.size 9 1 sv sc.length (sc.map .string)
  rowb : wr.ownsRow w.heap.size 41 3 rb R.length (recCells R)
  below : Below w.heap.size w wr

theorem CSt.of_blocks {w wr w' : World} {pb sm ds cs n : Nat} {T : List Sc} {L : List (ByteArray × (ByteArray ⊕ (Int × ByteArray)))} {sv rb : Value} {sc : List ByteArray} {R : List (ByteArray × (ByteArray × (Int × ByteArray)))} (h : CSt w wr pb sm ds cs T L n sv sc rb R) (hb : Below wr.heap.size wr w') : CSt w w' pb sm ds cs T L n sv sc rb R :=
  ⟨h.mir.of_blocks (fun k hk _ => hb.block k hk), ownsRow_of_block h.sc (fun k hk => hb.block k (lt_of_heap (ownsRow_block h.sc hk).2.choose_spec)), ownsRow_of_block h.rowb (fun k hk => hb.block k (lt_of_heap (ownsRow_block h.rowb hk).2.choose_spec)), h.below.trans (hb.mono h.below.size)⟩

theorem below_drew (w : World) : Below w.heap.size w w.drew := ⟨rfl, rfl, rfl, Nat.le_refl _, fun _ _ => rfl⟩
theorem below_drewN (w : World) (n : Nat) : Below w.heap.size w (w.drewN n) := ⟨rfl, rfl, rfl, Nat.le_refl _, fun _ _ => rfl⟩

/-- .. and the block b lies in a block of its own. -/
structure DSt (w wr : World) (pb sm ds cs : Nat) (T : List Sc) (L : List (ByteArray × (ByteArray ⊕ (Int × ByteArray)))) (n : Nat) (sv : Value) (sc : List ByteArray) (rb : Value) (R : List (ByteArray × (ByteArray × (Int × ByteArray)))) (bb : Nat) (d : ByteArray) (tx : Int) (co : ByteArray) : Prop where
  st : CSt w wr pb sm ds cs T L n sv sc rb R
  box : wr.heap[bb]? = some (.cells #[.string d, .int .i64 tx, .string co] 41 (0, 0))
  ne : rb.ownBlock ≠ some bb

theorem DSt.of_blocks {w wr w' : World} {pb sm ds cs n bb : Nat} {T : List Sc} {L : List (ByteArray × (ByteArray ⊕ (Int × ByteArray)))} {sv rb : Value} {sc : List ByteArray} {R : List (ByteArray × (ByteArray × (Int × ByteArray)))} {d co : ByteArray} {tx : Int} (h : DSt w wr pb sm ds cs T L n sv sc rb R bb d tx co) (hb : Below wr.heap.size wr w') : DSt w w' pb sm ds cs T L n sv sc rb R bb d tx co :=
  ⟨h.st.of_blocks hb, (hb.block bb (lt_of_heap h.box)).trans h.box, h.ne⟩

theorem DSt.made {w wr w' : World} {pb sm ds cs n bb : Nat} {T : List Sc} {L : List (ByteArray × (ByteArray ⊕ (Int × ByteArray)))} {sv rb : Value} {sc : List ByteArray} {R : List (ByteArray × (ByteArray × (Int × ByteArray)))} {d co : ByteArray} {tx : Int} (h : CSt w wr pb sm ds cs T L n sv sc rb R) (hle : wr.heap.size ≤ bb) (hb : Below wr.heap.size wr w') (hbox : w'.heap[bb]? = some (.cells #[.string d, .int .i64 tx, .string co] 41 (0, 0))) : DSt w w' pb sm ds cs T L n sv sc rb R bb d tx co :=
  ⟨h.of_blocks hb, hbox, fun e => by
    have := lt_of_heap (ownsRow_block h.rowb e).2.choose_spec
    omega⟩

/-- Behind the append to the different blocks. -/
theorem CSt.app {w wr w' : World} {pb sm ds cs n : Nat} {T : List Sc} {L : List (ByteArray × (ByteArray ⊕ (Int × ByteArray)))} {sv rb : Value} {sc : List ByteArray} {R : List (ByteArray × (ByteArray × (Int × ByteArray)))} (h : CSt w wr pb sm ds cs T L n sv sc rb R) {s d co : ByteArray} {tx : Int} {o : Obj} {g p : Nat}
    (r : w'.ownsRow w.heap.size 41 3 (.slice (some ⟨g, 0, none⟩) (R.length + 1) p) (R.length + 1) (recCells R ++ [.string d, .int .i64 tx, .string co])) (hg : (wr.alloc o).grownBy w' rb.ownBlock) :
    CSt w w' pb sm ds cs T L n sv sc (.slice (some ⟨g, 0, none⟩) (R.length + 1) p) (R ++ [(s, (d, (tx, co)))]) := by
  refine ⟨(h.mir.alloc o).grown hg (fun k hk => ?_), ownsRow_of_block h.sc (fun b hb => ?_), ?_, (h.below.alloc h.below.size o).grown hg (by have := h.below.size; simp; omega) (fun k hk => (ownsRow_block h.rowb hk).1)⟩
  · obtain ⟨_, cur, hc⟩ := ownsRow_block h.rowb hk
    exact ⟨cur, 41, _, heap_a hc, .inr rfl⟩
  · obtain ⟨_, cur, hc⟩ := ownsRow_block h.sc hb
    rw [hg.block b (lt_of_heap (heap_a hc)) (fun e => ?_), heap_a hc, hc]
    obtain ⟨_, cur', hc'⟩ := ownsRow_block h.rowb e.symm
    rw [hc] at hc'; cases hc'
  · rw [recCells_snoc]
    simpa using r

theorem hasSite_yes {w : World} {a : Option Addr} {len cap b off : Nat} {ss : List ByteArray} (H : IsStrs w a len cap b off ss) {s : ByteArray} (h : siteIn ss s) :
    Calls Try.prog 20 #[.slice a len cap, .string s] w fun e w' => e = .returned (.bool true) ∧ w' = w := by
  refine (hasSite_any H s).mono ?_
  rintro e w' ⟨⟨t, rfl, ht⟩, rfl⟩
  exact ⟨by rw [ht.2 h], rfl⟩
theorem hasSite_no {w : World} {a : Option Addr} {len cap b off : Nat} {ss : List ByteArray} (H : IsStrs w a len cap b off ss) {s : ByteArray} (h : ¬ siteIn ss s) :
    Calls Try.prog 20 #[.slice a len cap, .string s] w fun e w' => e = .returned (.bool false) ∧ w' = w := by
  refine (hasSite_any H s).mono ?_
  rintro e w' ⟨⟨t, rfl, ht⟩, rfl⟩
  cases t
  · exact ⟨rfl, rfl⟩
  · exact absurd (ht.1 rfl) h

theorem heldAt_take {T : List Sc} {L : List (ByteArray × (ByteArray ⊕ (Int × ByteArray)))} {key : ByteArray ⊕ (Int × ByteArray)} {sc : List ByteArray} {m : Nat} {x : ByteArray} (h : sc[m]? = some x) : heldAt T L key (sc.take (m + 1)) = heldAt T L key (sc.take m) + if hasB T L x key = true then 1 else 0 := by
  rw [take_snoc sc h]
  unfold heldAt
  rw [List.countP_append, List.countP_cons, List.countP_nil, Nat.zero_add]
theorem heldAt_le (T : List Sc) (L : List (ByteArray × (ByteArray ⊕ (Int × ByteArray)))) (key : ByteArray ⊕ (Int × ByteArray)) (sc : List ByteArray) : heldAt T L key sc ≤ sc.length := List.countP_le_length
theorem blkAt_le (L : List (ByteArray × (ByteArray ⊕ (Int × ByteArray)))) (D : List (ByteArray ⊕ (Int × ByteArray))) : blkAt L D ≤ D.length := List.countP_le_length
theorem blkAt_snoc (L : List (ByteArray × (ByteArray ⊕ (Int × ByteArray)))) (D : List (ByteArray ⊕ (Int × ByteArray))) (k : ByteArray ⊕ (Int × ByteArray)) : blkAt L (D ++ [k]) = blkAt L D + if cntL L k ≠ 0 then 1 else 0 := by
  unfold blkAt
  rw [List.countP_append, List.countP_cons, List.countP_nil, Nat.zero_add]
  simp
end Go.Proofs.Qxb6000541a
