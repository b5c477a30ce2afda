import Derived.Test.Qxb6000541aId
namespace Go.Proofs.Qxb6000541a

/-- The creative number k of the two lists. -/
def pairAt (s1 s2 : List ByteArray) (k : Nat) : ByteArray × ByteArray := (s1.getD k ByteArray.empty, s2.getD k ByteArray.empty)
/-- What has been numbered behind the first k. -/
def keysTo (s1 s2 : List ByteArray) : Nat → List (ByteArray × ByteArray)
  | 0 => []
  | k + 1 => addKey (keysTo s1 s2 k) (pairAt s1 s2 k)
/-- The number that creative k gets. -/
def idAt (s1 s2 : List ByteArray) (k : Nat) : Nat := idxIn (keysTo s1 s2 k) (pairAt s1 s2 k)

theorem addKey_keeps {ks : List (ByteArray × ByteArray)} {p q : ByteArray × ByteArray} (h : idxIn ks q < ks.length) : idxIn (addKey ks p) q = idxIn ks q ∧ idxIn (addKey ks p) q < (addKey ks p).length := by
  unfold addKey
  split
  · exact ⟨rfl, h⟩
  · rw [idxIn_append q _ ks h]
    exact ⟨rfl, by simp; omega⟩

theorem addKey_own (ks : List (ByteArray × ByteArray)) (p : ByteArray × ByteArray) : idxIn (addKey ks p) p = idxIn ks p ∧ idxIn (addKey ks p) p < (addKey ks p).length := by
  unfold addKey
  split
  · rename_i h; exact ⟨rfl, h⟩
  · rename_i h
    have := idxIn_le p ks
    rw [idxIn_snoc p p ks h, if_pos rfl]
    exact ⟨by omega, by simp⟩

theorem addKey_length (ks : List (ByteArray × ByteArray)) (p : ByteArray × ByteArray) : (addKey ks p).length ≤ ks.length + 1 := by
  unfold addKey
  split
  · omega
  · simp

theorem keysTo_length (s1 s2 : List ByteArray) : ∀ k, (keysTo s1 s2 k).length ≤ k
  | 0 => Nat.le_refl _
  | k + 1 => Nat.le_trans (addKey_length _ _) (Nat.succ_le_succ (keysTo_length s1 s2 k))

theorem idAt_stable (s1 s2 : List ByteArray) (j : Nat) : ∀ k, j < k → idxIn (keysTo s1 s2 k) (pairAt s1 s2 j) = idAt s1 s2 j ∧ idAt s1 s2 j < (keysTo s1 s2 k).length
  | 0, h => by omega
  | k + 1, h => by
    by_cases e : j = k
    · subst e
      have := addKey_own (keysTo s1 s2 j) (pairAt s1 s2 j)
      exact ⟨this.1, by unfold idAt; rw [← this.1]; exact this.2⟩
    · have ih := idAt_stable s1 s2 j k (by omega)
      have := addKey_keeps (p := pairAt s1 s2 k) (ih.1.symm ▸ ih.2)
      refine ⟨this.1.trans ih.1, ?_⟩
      have h2 := this.2
      rw [this.1, ih.1] at h2
      exact h2

theorem keysTo_again (s1 s2 : List ByteArray) {j k : Nat} (h : j < k) : addKey (keysTo s1 s2 k) (pairAt s1 s2 j) = keysTo s1 s2 k := by
  have := idAt_stable s1 s2 j k h
  exact if_pos (by rw [this.1]; exact this.2)

end Go.Proofs.Qxb6000541a
