import Derived.Test.Qxb6000541aMapIs
namespace Go.Proofs.Qxb6000541a

/-! What is blocked where, in plain terms: a list of (scope, block) pairs; a block is its domain or, without one, its category. -/

def blkKey (d : ByteArray) (tax : Int) (code : ByteArray) : ByteArray ⊕ (Int × ByteArray) := if d = ByteArray.empty then .inr (tax, code) else .inl d

/-- The block stands at the scope. -/
def hasL : List (ByteArray × (ByteArray ⊕ (Int × ByteArray))) → ByteArray → ByteArray ⊕ (Int × ByteArray) → Bool
  | [], _, _ => false
  | x :: r, s, k => (decide (x.1 = s) && decide (x.2 = k)) || hasL r s k
/-- At how many scopes it stands. -/
def cntL : List (ByteArray × (ByteArray ⊕ (Int × ByteArray))) → ByteArray ⊕ (Int × ByteArray) → Nat
  | [], _ => 0
  | x :: r, k => (if x.2 = k then 1 else 0) + cntL r k

theorem hasL_snoc (s s' : ByteArray) (k k' : ByteArray ⊕ (Int × ByteArray)) : ∀ L, hasL (L ++ [(s, k)]) s' k' = (hasL L s' k' || (decide (s = s') && decide (k = k')))
  | [] => by simp [hasL]
  | x :: r => by
    rw [List.cons_append, hasL, hasL, hasL_snoc s s' k k' r, Bool.or_assoc]

theorem cntL_snoc (s : ByteArray) (k k' : ByteArray ⊕ (Int × ByteArray)) : ∀ L, cntL (L ++ [(s, k)]) k' = cntL L k' + if k = k' then 1 else 0
  | [] => by simp [cntL]
  | x :: r => by
    rw [List.cons_append, cntL, cntL, cntL_snoc s k k' r, Nat.add_assoc]

theorem cntL_le (k : ByteArray ⊕ (Int × ByteArray)) : ∀ L, cntL L k ≤ L.length
  | [] => Nat.le_refl _
  | x :: r => by
    have := cntL_le k r
    rw [cntL]
    split <;> simp <;> omega

/-- A scope: its name, where its block list lies, the list's two maps. -/
structure Sc where
  name : ByteArray
  lb : Nat
  lo : Nat
  dm : Nat
  cm : Nat

def scopeAt (T : List Sc) (s : ByteArray) : Option Sc := T.find? (fun c => decide (c.name = s))

theorem scopeAt_some {T : List Sc} {s : ByteArray} {c : Sc} (h : scopeAt T s = some c) : c ∈ T ∧ c.name = s :=
  ⟨List.mem_of_find?_eq_some h, by have := List.find?_some h; simpa using this⟩

def stepL (T : List Sc) (L : List (ByteArray × (ByteArray ⊕ (Int × ByteArray)))) (s : ByteArray) (k : ByteArray ⊕ (Int × ByteArray)) : List (ByteArray × (ByteArray ⊕ (Int × ByteArray))) :=
  if (scopeAt T s).isSome = true ∧ hasL L s k = false then L ++ [(s, k)] else L
def ansL (T : List Sc) (L : List (ByteArray × (ByteArray ⊕ (Int × ByteArray)))) (s : ByteArray) (k : ByteArray ⊕ (Int × ByteArray)) : Bool :=
  (scopeAt T s).isSome && !hasL L s k && decide (cntL L k = 0)

/-! What the maps hold. -/
def domOf (L : List (ByteArray × (ByteArray ⊕ (Int × ByteArray)))) (s : ByteArray) : Value → Option Value
  | .string d => if hasL L s (.inl d) = true then some (.bool true) else none
  | _ => none
def catPair : Value → Option (Int × ByteArray)
  | .agg xs => match xs.toList with
    | [.int .i64 n, .string c] => some (n, c)
    | _ => none
  | _ => none
def catOf (L : List (ByteArray × (ByteArray ⊕ (Int × ByteArray)))) (s : ByteArray) (v : Value) : Option Value :=
  match catPair v with
  | some p => if hasL L s (.inr p) = true then some (.bool true) else none
  | none => none
def dcnt (L : List (ByteArray × (ByteArray ⊕ (Int × ByteArray)))) : Value → Option Value
  | .string d => if cntL L (.inl d) = 0 then none else some (.int .i64 (cntL L (.inl d)))
  | _ => none
def ccnt (L : List (ByteArray × (ByteArray ⊕ (Int × ByteArray)))) (v : Value) : Option Value :=
  match catPair v with
  | some p => if cntL L (.inr p) = 0 then none else some (.int .i64 (cntL L (.inr p)))
  | none => none
def siteOf (T : List Sc) : Value → Option Value
  | .string s => if s = ByteArray.empty then none else (scopeAt T s).map fun c => .pointer (some ⟨c.lb, 0, none⟩)
  | _ => none

theorem catPair_inv {v : Value} {p : Int × ByteArray} (h : catPair v = some p) : v = .agg #[.int .i64 p.1, .string p.2] := by
  unfold catPair at h
  split at h
  · rename_i xs
    split at h
    · rename_i n c hx
      cases h
      obtain ⟨l⟩ := xs
      simp at hx
      rw [hx]
    · cases h
  · cases h

variable {L : List (ByteArray × (ByteArray ⊕ (Int × ByteArray)))} {s s' d : ByteArray} {n : Int} {c : ByteArray}

theorem domOf_same : domOf (L ++ [(s, .inl d)]) s (.string d) = some (.bool true) := by
  simp [domOf, hasL_snoc]
theorem domOf_other {x : Value} (h : x ≠ .string d) : domOf (L ++ [(s, .inl d)]) s x = domOf L s x := by
  cases x <;> try rfl
  rename_i y
  have : ¬ d = y := fun e => h (by rw [e])
  simp [domOf, hasL_snoc, this]
theorem domOf_scope (h : s ≠ s') (k : ByteArray ⊕ (Int × ByteArray)) : domOf (L ++ [(s, k)]) s' = domOf L s' := by
  funext x
  cases x <;> try rfl
  simp [domOf, hasL_snoc, h]
theorem domOf_cat (p : Int × ByteArray) : domOf (L ++ [(s, .inr p)]) s' = domOf L s' := by
  funext x
  cases x <;> try rfl
  simp [domOf, hasL_snoc]
theorem catOf_same : catOf (L ++ [(s, .inr (n, c))]) s (.agg #[.int .i64 n, .string c]) = some (.bool true) := by
  show (if hasL (L ++ [(s, .inr (n, c))]) s (.inr (n, c)) = true then _ else _) = _
  simp [hasL_snoc]
theorem catOf_other {x : Value} (h : x ≠ .agg #[.int .i64 n, .string c]) : catOf (L ++ [(s, .inr (n, c))]) s x = catOf L s x := by
  unfold catOf
  cases hp : catPair x with
  | none => rfl
  | some p =>
    have : ¬ (n, c) = p := fun e => h (by rw [catPair_inv hp, ← e])
    simp [hasL_snoc, this]
theorem catOf_scope (h : s ≠ s') (k : ByteArray ⊕ (Int × ByteArray)) : catOf (L ++ [(s, k)]) s' = catOf L s' := by
  funext x
  unfold catOf
  cases catPair x with
  | none => rfl
  | some p => simp [hasL_snoc, h]
theorem catOf_dom (e : ByteArray) : catOf (L ++ [(s, .inl e)]) s' = catOf L s' := by
  funext x
  unfold catOf
  cases catPair x with
  | none => rfl
  | some p => simp [hasL_snoc]
theorem dcnt_same : dcnt (L ++ [(s, .inl d)]) (.string d) = some (.int .i64 (cntL L (.inl d) + 1 : Nat)) := by
  simp [dcnt, cntL_snoc]
theorem dcnt_other {x : Value} (h : x ≠ .string d) : dcnt (L ++ [(s, .inl d)]) x = dcnt L x := by
  cases x <;> try rfl
  rename_i y
  have : ¬ d = y := fun e => h (by rw [e])
  simp [dcnt, cntL_snoc, this]
theorem dcnt_cat (p : Int × ByteArray) : dcnt (L ++ [(s, .inr p)]) = dcnt L := by
  funext x
  cases x <;> try rfl
  simp [dcnt, cntL_snoc]
theorem ccnt_same : ccnt (L ++ [(s, .inr (n, c))]) (.agg #[.int .i64 n, .string c]) = some (.int .i64 (cntL L (.inr (n, c)) + 1 : Nat)) := by
  show (if cntL (L ++ [(s, .inr (n, c))]) (.inr (n, c)) = 0 then _ else _) = _
  simp [cntL_snoc]
theorem ccnt_other {x : Value} (h : x ≠ .agg #[.int .i64 n, .string c]) : ccnt (L ++ [(s, .inr (n, c))]) x = ccnt L x := by
  unfold ccnt
  cases hp : catPair x with
  | none => rfl
  | some p =>
    have : ¬ (n, c) = p := fun e => h (by rw [catPair_inv hp, ← e])
    simp [cntL_snoc, this]
theorem ccnt_dom (e : ByteArray) : ccnt (L ++ [(s, .inl e)]) = ccnt L := by
  funext x
  unfold ccnt
  cases catPair x with
  | none => rfl
  | some p => simp [cntL_snoc]
theorem dcnt_getD : (dcnt L (.string d)).getD (.int .i64 0) = .int .i64 (cntL L (.inl d)) := by
  show (if cntL L (.inl d) = 0 then none else some (Value.int .i64 (cntL L (.inl d)))).getD (.int .i64 0) = _
  split
  · rename_i h; simp [h]
  · rfl
theorem ccnt_getD : (ccnt L (.agg #[.int .i64 n, .string c])).getD (.int .i64 0) = .int .i64 (cntL L (.inr (n, c))) := by
  show (if cntL L (.inr (n, c)) = 0 then none else some (Value.int .i64 (cntL L (.inr (n, c))))).getD (.int .i64 0) = _
  split
  · rename_i h; simp [h]
  · rfl
theorem domOf_getD : (domOf L s (.string d)).getD (.bool false) = .bool (hasL L s (.inl d)) := by
  show (if hasL L s (.inl d) = true then some (Value.bool true) else none).getD (.bool false) = _
  cases hasL L s (.inl d) <;> rfl
theorem catOf_getD : (catOf L s (.agg #[.int .i64 n, .string c])).getD (.bool false) = .bool (hasL L s (.inr (n, c))) := by
  show (if hasL L s (.inr (n, c)) = true then some (Value.bool true) else none).getD (.bool false) = _
  cases hasL L s (.inr (n, c)) <;> rfl

end Go.Proofs.Qxb6000541a
