import Derived.Test.Qxb6000541aRead
namespace Go.Proofs.Qxb6000541a

/-! The plain law of the scope counts. -/
section
variable (T : List Sc) (op : Nat → ByteArray × (ByteArray ⊕ (Int × ByteArray)))

/-- What is blocked behind the first k calls. -/
def LTo : Nat → List (ByteArray × (ByteArray ⊕ (Int × ByteArray)))
  | 0 => []
  | k + 1 => stepL T (LTo k) (op k).1 (op k).2
/-- How many of them answered true. -/
def trTo : Nat → Nat
  | 0 => 0
  | k + 1 => trTo k + if ansL T (LTo T op k) (op k).1 (op k).2 = true then 1 else 0

theorem LTo_length : ∀ k, (LTo T op k).length ≤ k
  | 0 => Nat.le_refl _
  | k + 1 => by
    have := LTo_length k
    rw [LTo, stepL]
    split
    · simp; omega
    · omega
theorem trTo_le : ∀ k, trTo T op k ≤ k
  | 0 => Nat.le_refl _
  | k + 1 => by
    have := trTo_le k
    rw [trTo]
    split <;> omega

theorem stepL_keeps (L : List (ByteArray × (ByteArray ⊕ (Int × ByteArray)))) (s s' : ByteArray) (k k' : ByteArray ⊕ (Int × ByteArray)) (h : hasL L s' k' = true) : hasL (stepL T L s k) s' k' = true := by
  unfold stepL
  split
  · rw [hasL_snoc, h]; rfl
  · exact h

theorem stepL_has (L : List (ByteArray × (ByteArray ⊕ (Int × ByteArray)))) (s : ByteArray) (k : ByteArray ⊕ (Int × ByteArray)) (h : (scopeAt T s).isSome = true) : hasL (stepL T L s k) s k = true := by
  unfold stepL
  cases hh : hasL L s k
  · rw [if_pos ⟨h, rfl⟩, hasL_snoc]; simp
  · rw [if_neg (by simp)]; exact hh

theorem LTo_has {j : Nat} (hs : (scopeAt T (op j).1).isSome = true) : ∀ k, j < k → hasL (LTo T op k) (op j).1 (op j).2 = true
  | 0, h => by omega
  | k + 1, h => by
    by_cases e : j = k
    · subst e; exact stepL_has T _ _ _ hs
    · exact stepL_keeps T _ _ _ _ _ (LTo_has hs k (by omega))

theorem countP_one {α : Type} [DecidableEq α] (p : α → Bool) (a : α) : ∀ l : List α, l.Nodup → a ∈ l → p a = false → l.countP (fun x => p x || decide (a = x)) = l.countP p + 1
  | [], _, h, _ => by simp at h
  | x :: r, hn, hm, hp => by
    obtain ⟨h1, h2⟩ := List.nodup_cons.1 hn
    rw [List.countP_cons, List.countP_cons]
    by_cases e : a = x
    · subst e
      have hr : r.countP (fun x => p x || decide (a = x)) = r.countP p := by
        apply List.countP_congr
        intro y hy
        have : a ≠ y := fun e => h1 (e ▸ hy)
        simp [this]
      rw [hr]
      simp [hp]
    · have hm' : a ∈ r := by
        rcases List.mem_cons.1 hm with h | h
        · exact absurd h e
        · exact h
      rw [countP_one p a r h2 hm' hp]
      simp [e]
      omega

/-- At how many of the listed scopes the block stands. -/
def heldAt (L : List (ByteArray × (ByteArray ⊕ (Int × ByteArray)))) (key : ByteArray ⊕ (Int × ByteArray)) (sc : List ByteArray) : Nat := sc.countP (fun s => hasB T L s key)

theorem held_count {sc : List ByteArray} (hn : sc.Nodup) (hsc : ∀ s, s ∈ sc ↔ (scopeAt T s).isSome = true) (key : ByteArray ⊕ (Int × ByteArray)) : ∀ k, heldAt T (LTo T op k) key sc = cntL (LTo T op k) key
  | 0 => by
    unfold heldAt
    rw [List.countP_eq_zero.2 (fun s _ => by simp [hasB, LTo, hasL])]
    rfl
  | k + 1 => by
    have ih := held_count hn hsc key k
    rw [LTo, stepL]
    split
    · rename_i h
      rw [cntL_snoc, ← ih]
      unfold heldAt
      by_cases e : (op k).2 = key
      · rw [if_pos e, ← countP_one (fun s => hasB T (LTo T op k) s key) (op k).1 sc hn ((hsc _).2 h.1) (by unfold hasB; rw [← e, h.2]; simp)]
        apply List.countP_congr
        intro s hs
        have h1 := (hsc s).1 hs
        simp [hasB, hasL_snoc, h1, e]
      · rw [if_neg e, Nat.add_zero]
        apply List.countP_congr
        intro s _
        simp [hasB, hasL_snoc, e]
    · exact ih

def kmem : List (ByteArray ⊕ (Int × ByteArray)) → ByteArray ⊕ (Int × ByteArray) → Bool
  | [], _ => false
  | x :: r, k => decide (x = k) || kmem r k
theorem kmem_iff (k : ByteArray ⊕ (Int × ByteArray)) : ∀ l, kmem l k = true ↔ k ∈ l
  | [] => by simp [kmem]
  | x :: r => by
    rw [kmem, List.mem_cons, Bool.or_eq_true, kmem_iff k r, decide_eq_true_iff]
    exact or_congr_left ⟨Eq.symm, Eq.symm⟩

/-- The different blocks among the first k calls, in order. -/
def dTo : Nat → List (ByteArray ⊕ (Int × ByteArray))
  | 0 => []
  | k + 1 => if kmem (dTo k) (op k).2 = true then dTo k else dTo k ++ [(op k).2]
theorem dTo_length : ∀ k, (dTo op k).length ≤ k
  | 0 => Nat.le_refl _
  | k + 1 => by
    have := dTo_length k
    rw [dTo]
    split
    · omega
    · simp; omega
theorem dTo_nodup : ∀ k, (dTo op k).Nodup
  | 0 => by simp [dTo]
  | k + 1 => by
    have ih := dTo_nodup k
    rw [dTo]
    split
    · exact ih
    · rename_i h
      rw [List.nodup_append]
      refine ⟨ih, by simp, fun a ha b hb e => ?_⟩
      simp only [List.mem_singleton] at hb
      exact h ((kmem_iff _ _).2 (by rw [← hb, ← e]; exact ha))

/-- How many of the listed blocks stand anywhere. -/
def blkAt (L : List (ByteArray × (ByteArray ⊕ (Int × ByteArray)))) (D : List (ByteArray ⊕ (Int × ByteArray))) : Nat := D.countP (fun key => decide (cntL L key ≠ 0))

theorem dTo_keys (key : ByteArray ⊕ (Int × ByteArray)) : ∀ k, cntL (LTo T op k) key ≠ 0 → key ∈ dTo op k
  | 0, h => absurd rfl h
  | k + 1, h => by
    have ih := dTo_keys key k
    have sub : ∀ x ∈ dTo op k, x ∈ dTo op (k + 1) := fun x hx => by
      rw [dTo]; split
      · exact hx
      · exact List.mem_append_left _ hx
    have own : (op k).2 ∈ dTo op (k + 1) := by
      rw [dTo]; split
      · rename_i h; exact (kmem_iff _ _).1 h
      · simp
    rw [LTo, stepL] at h
    split at h
    · rw [cntL_snoc] at h
      by_cases e : (op k).2 = key
      · rw [← e]; exact own
      · rw [if_neg e] at h
        exact sub _ (ih (by omega))
    · exact sub _ (ih h)

theorem tr_count : ∀ k, trTo T op k = blkAt (LTo T op k) (dTo op k)
  | 0 => rfl
  | k + 1 => by
    have ih := tr_count k
    have hkeys := dTo_keys T op (op k).2 k
    rw [trTo, LTo, dTo, ih]
    have hans : ansL T (LTo T op k) (op k).1 (op k).2 = true ↔ (scopeAt T (op k).1).isSome = true ∧ hasL (LTo T op k) (op k).1 (op k).2 = false ∧ cntL (LTo T op k) (op k).2 = 0 := by
      simp [ansL, and_assoc]
    unfold stepL
    by_cases h : (scopeAt T (op k).1).isSome = true ∧ hasL (LTo T op k) (op k).1 (op k).2 = false
    · rw [if_pos h]
      by_cases hz : cntL (LTo T op k) (op k).2 = 0
      · rw [if_pos (hans.2 ⟨h.1, h.2, hz⟩)]
        have hp : ∀ x, decide (cntL (LTo T op k ++ [((op k).1, (op k).2)]) x ≠ 0) = (decide (cntL (LTo T op k) x ≠ 0) || decide ((op k).2 = x)) := fun x => by
          rw [cntL_snoc]
          by_cases e : (op k).2 = x
          · simp [e]
          · simp [e]
        split
        · rename_i hm
          unfold blkAt
          rw [← countP_one (fun key => decide (cntL (LTo T op k) key ≠ 0)) (op k).2 (dTo op k) (dTo_nodup op k) ((kmem_iff _ _).1 hm) (by simp [hz])]
          exact List.countP_congr (fun x _ => by rw [hp x])
        · rename_i hm
          have hm' : (op k).2 ∉ dTo op k := fun h => hm ((kmem_iff _ _).2 h)
          unfold blkAt
          rw [List.countP_append]
          have e1 : (dTo op k).countP (fun key => decide (cntL (LTo T op k ++ [((op k).1, (op k).2)]) key ≠ 0)) = (dTo op k).countP (fun key => decide (cntL (LTo T op k) key ≠ 0)) := by
            apply List.countP_congr
            intro x hx
            have : (op k).2 ≠ x := fun e => hm' (e ▸ hx)
            rw [hp x]; simp [this]
          rw [e1]
          simp [cntL_snoc]
      · rw [if_neg (fun h' => hz (hans.1 h').2.2), if_pos ((kmem_iff _ _).2 (hkeys hz))]
        unfold blkAt
        apply List.countP_congr
        intro x _
        rw [cntL_snoc]
        by_cases e : (op k).2 = x
        · rw [← e]; simp [hz]
        · simp [e]
    · rw [if_neg h, if_neg (fun h' => h ⟨(hans.1 h').1, (hans.1 h').2.1⟩)]
      split
      · rfl
      · rename_i hm
        have hz : cntL (LTo T op k) (op k).2 = 0 := by
          by_cases hz : cntL (LTo T op k) (op k).2 = 0
          · exact hz
          · exact absurd ((kmem_iff _ _).2 (hkeys hz)) hm
        unfold blkAt
        rw [List.countP_append]
        simp [hz]
end
end Go.Proofs.Qxb6000541a
