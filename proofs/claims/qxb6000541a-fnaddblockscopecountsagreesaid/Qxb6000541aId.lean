import Derived.Test.Qxb6000541aBase
import Derived.Deep.DrawnRows
namespace Go.Proofs.Qxb6000541a
open Go.RowKit Go.Maps

def pairOf : Value → Option (ByteArray × ByteArray)
  | .agg xs => match xs.toList with
    | [.string s, .string c] => some (s, c)
    | _ => none
  | _ => none

theorem pairOf_inv {v : Value} {p : ByteArray × ByteArray} (h : pairOf v = some p) : v = .agg #[.string p.1, .string p.2] := by
  unfold pairOf at h
  split at h
  · rename_i xs
    split at h
    · rename_i s c hx
      cases h
      obtain ⟨l⟩ := xs
      simp at hx
      rw [hx]
    · cases h
  · cases h

/-- Where p first stands in the list; the list's length where it does not. -/
def idxIn : List (ByteArray × ByteArray) → ByteArray × ByteArray → Nat
  | [], _ => 0
  | q :: r, p => if q = p then 0 else idxIn r p + 1

theorem idxIn_le (p : ByteArray × ByteArray) : ∀ ks, idxIn ks p ≤ ks.length
  | [] => Nat.le_refl _
  | q :: r => by
    unfold idxIn
    split
    · exact Nat.zero_le _
    · have := idxIn_le p r; simp; omega

theorem idxIn_get (p : ByteArray × ByteArray) : ∀ ks, idxIn ks p < ks.length → ks[idxIn ks p]? = some p
  | [], h => by simp [idxIn] at h
  | q :: r, h => by
    unfold idxIn at h ⊢
    split at h
    · rename_i e; simp [e]
    · rename_i e
      simp only [e, if_false]
      simpa using idxIn_get p r (by simp at h; omega)

theorem idxIn_append (p : ByteArray × ByteArray) (l : List (ByteArray × ByteArray)) : ∀ ks, idxIn ks p < ks.length → idxIn (ks ++ l) p = idxIn ks p
  | [], h => by simp [idxIn] at h
  | q :: r, h => by
    rw [List.cons_append]
    unfold idxIn at h ⊢
    split at h
    · rename_i e; simp [e]
    · rename_i e
      simp only [e, if_false]
      rw [idxIn_append p l r (by simp at h; omega)]

theorem idxIn_snoc (p q : ByteArray × ByteArray) : ∀ ks, ¬ idxIn ks p < ks.length → idxIn (ks ++ [q]) p = if q = p then ks.length else ks.length + 1
  | [], _ => by simp [idxIn]
  | q' :: r, h => by
    rw [List.cons_append]
    unfold idxIn at h ⊢
    split at h
    · simp at h
    · rename_i e
      simp only [e, if_false]
      rw [idxIn_snoc p q r (by simp at h; omega)]
      split <;> simp

theorem idxIn_min (p : ByteArray × ByteArray) : ∀ ks (j : Nat), ks[j]? = some p → idxIn ks p ≤ j
  | [], j, h => by simp at h
  | q :: r, j, h => by
    unfold idxIn
    split
    · exact Nat.zero_le _
    · rename_i e
      cases j with
      | zero => simp at h; exact absurd h e
      | succ j => have := idxIn_min p r j (by simpa using h); omega

/-- What the map 'ids' holds when the creatives 'ks' have been numbered. -/
def idsOf (ks : List (ByteArray × ByteArray)) (v : Value) : Option Value :=
  match pairOf v with
  | some p => if idxIn ks p < ks.length then some (.int .i32 (idxIn ks p)) else none
  | none => none

def addKey (ks : List (ByteArray × ByteArray)) (p : ByteArray × ByteArray) : List (ByteArray × ByteArray) := if idxIn ks p < ks.length then ks else ks ++ [p]

theorem idsOf_pair (ks : List (ByteArray × ByteArray)) (s c : ByteArray) : idsOf ks (.agg #[.string s, .string c]) = if idxIn ks (s, c) < ks.length then some (.int .i32 (idxIn ks (s, c))) else none := rfl

theorem idsOf_snoc_same {ks : List (ByteArray × ByteArray)} {s c : ByteArray} (h : ¬ idxIn ks (s, c) < ks.length) : idsOf (ks ++ [(s, c)]) (.agg #[.string s, .string c]) = some (.int .i32 ks.length) := by
  rw [idsOf_pair, idxIn_snoc _ _ _ h]
  simp

theorem idsOf_snoc_other {ks : List (ByteArray × ByteArray)} {s c : ByteArray} {x : Value} (hx : x ≠ .agg #[.string s, .string c]) : idsOf (ks ++ [(s, c)]) x = idsOf ks x := by
  unfold idsOf
  cases hp : pairOf x with
  | none => rfl
  | some p =>
    have hne : (s, c) ≠ p := fun e => hx (by rw [pairOf_inv hp, ← e])
    by_cases h : idxIn ks p < ks.length
    · simp only [idxIn_append p _ ks h, h, if_true]
      rw [if_pos (by simp; omega)]
    · simp only [idxIn_snoc p _ ks h, h, if_false, hne]
      rw [if_neg (by simp)]

/-- The row of the mirror's creatives: element j's first two cells are its key. -/
def RowOk (xs : List Value) (ks : List (ByteArray × ByteArray)) : Prop := ∀ j p, ks[j]? = some p → xs[8 * j]? = some (.string p.1) ∧ xs[8 * j + 1]? = some (.string p.2)

theorem RowOk.snoc {xs : List Value} {ks : List (ByteArray × ByteArray)} (h : RowOk xs ks) (hl : xs.length = ks.length * 8) {s c : ByteArray} {r : List Value} : RowOk (xs ++ (.string s :: .string c :: r)) (ks ++ [(s, c)]) := by
  intro j p hj
  by_cases hlt : j < ks.length
  · rw [List.getElem?_append_left hlt] at hj
    obtain ⟨h1, h2⟩ := h j p hj
    rw [List.getElem?_append_left (by omega), List.getElem?_append_left (by omega)]
    exact ⟨h1, h2⟩
  · have hj0 : j = ks.length := by
      have := (List.getElem?_eq_some_iff.1 hj).1
      simp at this; omega
    subst hj0
    simp at hj
    subst hj
    rw [List.getElem?_append_right (by omega), List.getElem?_append_right (by omega)]
    rw [show 8 * ks.length - xs.length = 0 from by omega, show 8 * ks.length + 1 - xs.length = 1 from by omega]
    exact ⟨rfl, rfl⟩

/-- The mirror at block pb: it has numbered the creatives 'ks'. -/
structure IdMir (w : World) (B pb mi : Nat) (ks : List (ByteArray × ByteArray)) : Prop where
  lowP : B ≤ pb
  lowM : B ≤ mi
  ids : MapIs w 30 mi ks.length (idsOf ks)
  blk : ∃ c0 cv c3 c4 c5 c6 c7 c8 xs, w.heap[pb]? = some (.cells #[c0, .map (some mi), cv, c3, c4, c5, c6, c7, c8] 60 (0, 0)) ∧ w.ownsRow B 67 8 cv ks.length xs ∧ RowOk xs ks

/-- The mirror's blocks as they were: the mirror as it was. -/
theorem IdMir.of_blocks {w w' : World} {B pb mi : Nat} {ks : List (ByteArray × ByteArray)} (h : IdMir w B pb mi ks) (hb : ∀ k, k < w.heap.size → Mine w B k → w'.heap[k]? = w.heap[k]?) : IdMir w' B pb mi ks := by
  obtain ⟨lp, lm, hi, c0, cv, c3, c4, c5, c6, c7, c8, xs, hp, hr, ho⟩ := h
  have e1 := hb pb (lt_of_heap hp) (Mine.cells lp hp (.inl rfl))
  obtain ⟨es, ck, hmb⟩ := hi.block
  have e2 := hb mi hi.lt (Mine.map lm hmb)
  refine ⟨lp, lm, hi.of_block e2, c0, cv, c3, c4, c5, c6, c7, c8, xs, e1.trans hp, ownsRow_of_block hr (fun k hk => ?_), ho⟩
  obtain ⟨hk1, cur, hk2⟩ := ownsRow_block hr hk
  exact hb k (lt_of_heap hk2) (Mine.cells hk1 hk2 (.inr (.inl rfl)))

theorem IdMir.alloc {w : World} {B pb mi : Nat} {ks : List (ByteArray × ByteArray)} (h : IdMir w B pb mi ks) (o : Obj) : IdMir (w.alloc o) B pb mi ks :=
  h.of_blocks fun k hk _ => Below.heap_alloc w o k hk
theorem IdMir.drew {w : World} {B pb mi : Nat} {ks : List (ByteArray × ByteArray)} (h : IdMir w B pb mi ks) : IdMir w.drew B pb mi ks :=
  h.of_blocks fun _ _ _ => rfl
theorem IdMir.drewN {w : World} {B pb mi : Nat} {ks : List (ByteArray × ByteArray)} (h : IdMir w B pb mi ks) (n : Nat) : IdMir (w.drewN n) B pb mi ks :=
  h.of_blocks fun _ _ _ => rfl
/-- A store into a block that is none of the mirror's. -/
theorem IdMir.setCell {w : World} {B pb mi : Nat} {ks : List (ByteArray × ByteArray)} (h : IdMir w B pb mi ks) {a : Addr} (ha : ¬ Mine w B a.block) (u : Value) : IdMir (w.setCell a u) B pb mi ks :=
  h.of_blocks fun k _ hm => Below.heap_setCell w a u k (fun e => ha (e ▸ hm))
theorem IdMir.grown {w w' : World} {B pb mi : Nat} {ks : List (ByteArray × ByteArray)} (h : IdMir w B pb mi ks) {row : Option Nat} (hg : w.grownBy w' row) (hr : ∀ k, row = some k → ¬ Mine w B k) : IdMir w' B pb mi ks :=
  h.of_blocks fun k hk hm => hg.block k hk (fun e => hr k e.symm hm)

theorem zero21 (w : World) : (zeroValue 21).run Try.prog w = .ok (.int .i32 0) w := by kernel_rfl
def z67 : Value := .agg #[.string ByteArray.empty, .string ByteArray.empty, .int .i64 0, .string ByteArray.empty, .map none, .map none, .slice none 0 0, .slice none 0 0]
theorem info67 : (Try.prog.info? 67).map (fun i => (i.zero, i.size, i.bytes)) = some (some z67, 8, 120) := by kernel_rfl

/-- The built-in append at type 58, kept closed to the walk's own rules. -/
def appRun (P : Program) (t : TypeId) (x y : Value) (w : World) : Result Value := (Builtin.append_ #[t, t] t #[x, y]).run P w
theorem app_fold (ev : Operand → Value) (t : TypeId) (d : Option Tmp) (x y : Operand) (p : String) (af : Array Edge) (g : Option (Nat × Bool)) (w : World) :
    Sem.run Try.prog (execOp ev { dst := d, op := Op.call { callee := Callee.builtin Builtin.append, args := #[x, y], argTypes := #[t, t] }, type := t, pos := p, after := af, guard := g }) w = (appRun Try.prog t (ev x) (ev y) w).andThen fun v w' => .ok (.value v) w' := by
  unfold execOp appRun
  simp only [resolve, invoke, builtin, Sem.run_bind, Sem.run_pure, Result.andThen_ok, List.map_toArray, List.map_cons, List.map_nil]

/-- A creative that has its number. -/
theorem id_old {w : World} {B pb mi : Nat} {ks : List (ByteArray × ByteArray)} (h : IdMir w B pb mi ks) {s c : ByteArray} (hs : s.size ≤ maxLen) (hc : c.size ≤ maxLen) (hm : idxIn ks (s, c) < ks.length) :
    Calls Try.prog 29 #[.pointer (some ⟨pb, 0, none⟩), .agg #[.string s, .string c]] w fun e w' => e = .returned (.int .i32 (idxIn ks (s, c))) ∧ IdMir w' B pb mi ks ∧ Kept B w w' := by
  have hfin : ∀ nq, IdMir ((w.alloc (.cells #[.string s, .string c] 30)).drewN nq) B pb mi ks ∧ Kept B w ((w.alloc (.cells #[.string s, .string c] 30)).drewN nq) := fun nq =>
    ⟨(h.alloc _).drewN nq, ((Kept.refl B w).alloc _).drewN nq⟩
  obtain ⟨_, _, hi, c0, cv, c3, c4, c5, c6, c7, c8, xs, hp, _, _⟩ := h
  have h1 := (free_of_row hp (o := 1) (v := .map (some mi)) rfl).cell
  have hpb := lt_of_heap hp
  have hl : ∀ nq, (Instr.lookup 49 (.map (some mi)) (.agg #[.string s, .string c]) true).run Try.prog ((w.alloc (.cells #[.string s, .string c] 30)).drewN nq) = .ok (.tuple #[.int .i32 (idxIn ks (s, c)), .bool true]) ((w.alloc (.cells #[.string s, .string c] 30)).drewN nq) := fun nq => by
    have := (hi.of_block (w' := (w.alloc (.cells #[.string s, .string c] 30)).drewN nq) (Below.heap_alloc w _ mi hi.lt)).look_ok law30 Try.underlying49 (zero21 _) (key30 hs hc)
    rw [idsOf_pair, if_pos hm] at this
    exact this
  have HF : Hid (∀ nq, IdMir ((w.alloc (.cells #[.string s, .string c] 30)).drewN nq) B pb mi ks ∧ Kept B w ((w.alloc (.cells #[.string s, .string c] 30)).drewN nq)) := hfin
  clear hfin hi hp hm hs hc
  go_enter Try.func29, Try.ntmps29
  go_wp2
  go_quiet (fail)
  go_wp2
  go_ret
  exact ⟨rfl, HF.out nq⟩

end Go.Proofs.Qxb6000541a
