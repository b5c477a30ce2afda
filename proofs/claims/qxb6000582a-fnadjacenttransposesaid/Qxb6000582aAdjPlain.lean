import Derived.Test.Qxb6000582aSearch
import Derived.Lib.SlicesCompact
import Derived.Lib.RowBridge
namespace Go.Proofs.Qxb6000582a
open Go.Lib

/-! ### Sorted and compacted -/

theorem compactUpTo_spec (d : Array Int) (hs : ∀ i j, i ≤ j → j < d.size → d[i]! ≤ d[j]!) : ∀ m, m ≤ d.size → (compactUpTo d m).Pairwise (· < ·) ∧ (∀ x, x ∈ compactUpTo d m ↔ ∃ j, j < m ∧ d[j]! = x)
  | 0, _ => by
    have : compactUpTo d 0 = [] := rfl
    rw [this]
    exact ⟨List.Pairwise.nil, fun x => ⟨fun h => (List.not_mem_nil h).elim, fun ⟨j, hj, _⟩ => absurd hj (Nat.not_lt_zero _)⟩⟩
  | m + 1, hm => by
    obtain ⟨ih1, ih2⟩ := compactUpTo_spec d hs m (by omega)
    rw [compactUpTo_succ]
    by_cases h0 : m = 0
    · subst h0
      have k0 : keeps d 0 = true := keeps_lt_one d 0 (by omega)
      have e0 : compactUpTo d 0 = [] := rfl
      rw [k0, e0]
      refine ⟨by simp, fun x => ?_⟩
      simp only [if_true, List.nil_append, List.mem_singleton]
      exact ⟨fun h => ⟨0, by omega, h.symm⟩, fun ⟨j, hj, h⟩ => by rw [← h, show j = 0 by omega]⟩
    · by_cases he : d[m]! = d[m - 1]!
      · rw [keeps_neg (by omega) he]
        simp only [Bool.false_eq_true, if_false, List.append_nil]
        refine ⟨ih1, fun x => ?_⟩
        rw [ih2]
        exact ⟨fun ⟨j, hj, h⟩ => ⟨j, by omega, h⟩, fun ⟨j, hj, h⟩ => by
          by_cases hjm : j = m
          · exact ⟨m - 1, by omega, by rw [← he, ← h, hjm]⟩
          · exact ⟨j, by omega, h⟩⟩
      · rw [keeps_pos he]
        simp only [if_true]
        constructor
        · rw [List.pairwise_append]
          refine ⟨ih1, by simp, fun x hx y hy => ?_⟩
          rw [List.mem_singleton] at hy
          obtain ⟨j, hj, rfl⟩ := (ih2 x).1 hx
          have a1 := hs j (m - 1) (by omega) (by omega)
          have a2 := hs (m - 1) m (by omega) (by omega)
          rw [hy]
          omega
        · intro x
          rw [List.mem_append, ih2, List.mem_singleton]
          constructor
          · rintro (⟨j, hj, h⟩ | h)
            · exact ⟨j, by omega, h⟩
            · exact ⟨m, by omega, h.symm⟩
          · rintro ⟨j, hj, h⟩
            by_cases hjm : j = m
            · exact .inr (by rw [← h, hjm])
            · exact .inl ⟨j, by omega, h⟩

/-- The list sorted, each element once. -/
def uniq (zs : List Int) : List Int := compact (zs.mergeSort fun x y => decide (x ≤ y))

theorem sorted_get (zs : List Int) : ∀ i j, i ≤ j → j < (zs.mergeSort fun x y => decide (x ≤ y)).toArray.size → (zs.mergeSort fun x y => decide (x ≤ y)).toArray[i]! ≤ (zs.mergeSort fun x y => decide (x ≤ y)).toArray[j]! := by
  intro i j hij hj
  have hp := List.pairwise_mergeSort (le := fun x y : Int => decide (x ≤ y)) (fun a b c h1 h2 => by simp at *; omega) (fun a b => by simp; omega) zs
  generalize (zs.mergeSort fun x y => decide (x ≤ y)) = ys at *
  have hj' : j < ys.length := by simpa using hj
  rcases Nat.lt_or_eq_of_le hij with h | h
  · have := List.pairwise_iff_getElem.1 hp i j (by omega) hj' h
    simp at this
    rw [getElem!_pos ys.toArray i (by simp; omega), getElem!_pos ys.toArray j (by simpa using hj')]
    simpa using this
  · rw [h]; exact Int.le_refl _

theorem uniq_spec (zs : List Int) : (uniq zs).Pairwise (· < ·) ∧ ∀ x, x ∈ uniq zs ↔ x ∈ zs := by
  have h := compactUpTo_spec _ (sorted_get zs) (zs.mergeSort fun x y => decide (x ≤ y)).length (by simp)
  refine ⟨h.1, fun x => ?_⟩
  rw [← List.mem_mergeSort (le := fun x y => decide (x ≤ y)) (l := zs)]
  unfold uniq compact
  rw [h.2 x, List.mem_iff_getElem]
  generalize (zs.mergeSort fun x y => decide (x ≤ y)) = ys
  constructor
  · rintro ⟨j, hj, e⟩
    refine ⟨j, hj, ?_⟩
    rw [getElem!_pos ys.toArray j (by simpa using hj)] at e
    simpa using e
  · rintro ⟨j, hj, e⟩
    refine ⟨j, hj, ?_⟩
    rw [getElem!_pos ys.toArray j (by simpa using hj)]
    simpa using e

theorem uniq_asc (zs : List Int) : Asc (uniq zs) := by
  intro i j hij hj
  have := List.pairwise_iff_getElem.1 (uniq_spec zs).1 i j (by omega) hj hij
  rw [List.getD_eq_getElem?_getD, List.getD_eq_getElem?_getD, List.getElem?_eq_getElem (by omega), List.getElem?_eq_getElem hj]
  exact this

theorem uniq_mem (zs : List Int) (x : Int) : x ∈ uniq zs ↔ x ∈ zs := (uniq_spec zs).2 x
theorem uniq_le (zs : List Int) : (uniq zs).length ≤ zs.length := by
  have := compact_length_le (zs.mergeSort fun x y => decide (x ≤ y))
  rw [List.length_mergeSort] at this
  exact this

/-! ### The lists by source -/

def lst (src : Nat → Nat) (dst : Nat → Int) : Nat → Nat → List Int
  | 0, _ => []
  | k + 1, v => if src k = v then lst src dst k v ++ [dst k] else lst src dst k v

def below (src : Nat → Nat) (dst : Nat → Int) (m : Nat) : Nat → Nat
  | 0 => 0
  | v + 1 => below src dst m v + (lst src dst m v).length

variable {src : Nat → Nat} {dst : Nat → Int}

theorem lst_same {k v : Nat} (h : src k = v) : lst src dst (k + 1) v = lst src dst k v ++ [dst k] := if_pos h
theorem lst_other {k v : Nat} (h : src k ≠ v) : lst src dst (k + 1) v = lst src dst k v := if_neg h

theorem lst_len_succ (k v : Nat) : (lst src dst k v).length ≤ (lst src dst (k + 1) v).length := by
  by_cases h : src k = v
  · rw [lst_same h]; simp
  · rw [lst_other h]; exact Nat.le_refl _

theorem lst_len_mono {k m : Nat} (h : k ≤ m) (v : Nat) : (lst src dst k v).length ≤ (lst src dst m v).length := by
  induction m with
  | zero => rw [show k = 0 by omega]; exact Nat.le_refl _
  | succ m ih =>
    by_cases e : k = m + 1
    · rw [e]; exact Nat.le_refl _
    · exact Nat.le_trans (ih (by omega)) (lst_len_succ m v)

theorem lst_len_lt {k m : Nat} (h : k < m) {v : Nat} (hv : src k = v) : (lst src dst k v).length < (lst src dst m v).length := by
  have h1 := lst_len_mono (src := src) (dst := dst) (show k + 1 ≤ m by omega) v
  rw [lst_same hv] at h1
  simp at h1
  omega

theorem mem_lst (x : Int) (v : Nat) : ∀ k, x ∈ lst src dst k v ↔ ∃ i, i < k ∧ src i = v ∧ dst i = x
  | 0 => by simp [lst]
  | k + 1 => by
    by_cases h : src k = v
    · rw [lst_same h, List.mem_append, mem_lst x v k, List.mem_singleton]
      constructor
      · rintro (⟨i, h1, h2⟩ | h')
        · exact ⟨i, by omega, h2⟩
        · exact ⟨k, by omega, h, h'.symm⟩
      · rintro ⟨i, h1, h2, h3⟩
        by_cases e : i = k
        · exact .inr (by rw [← h3, e])
        · exact .inl ⟨i, by omega, h2, h3⟩
    · rw [lst_other h, mem_lst x v k]
      constructor
      · rintro ⟨i, h1, h2⟩
        exact ⟨i, by omega, h2⟩
      · rintro ⟨i, h1, h2, h3⟩
        by_cases e : i = k
        · rw [e] at h2; exact absurd h2 h
        · exact ⟨i, by omega, h2, h3⟩

theorem below_mono (m : Nat) {u v : Nat} (h : u ≤ v) : below src dst m u ≤ below src dst m v := by
  induction v with
  | zero => rw [show u = 0 by omega]; exact Nat.le_refl _
  | succ v ih =>
    by_cases e : u = v + 1
    · rw [e]; exact Nat.le_refl _
    · have := ih (by omega)
      rw [below]; omega

theorem below_succ_k (k : Nat) : ∀ n, below src dst (k + 1) n = below src dst k n + if src k < n then 1 else 0
  | 0 => by simp [below]
  | n + 1 => by
    rw [below, below, below_succ_k k n]
    by_cases h : src k = n
    · rw [lst_same h, if_neg (by omega), if_pos (by omega)]; simp; omega
    · rw [lst_other h]
      by_cases h2 : src k < n
      · rw [if_pos h2, if_pos (by omega)]; omega
      · rw [if_neg h2, if_neg (by omega)]; omega

theorem below_le (n : Nat) : ∀ k, below src dst k n ≤ k
  | 0 => by
    have : ∀ n, below src dst 0 n = 0 := fun n => by
      induction n with
      | zero => rfl
      | succ n ih => rw [below, ih]; rfl
    rw [this]; exact Nat.le_refl _
  | k + 1 => by
    have := below_le n k
    rw [below_succ_k]
    split <;> omega

theorem seg_le {m n v : Nat} (hv : v < n) : below src dst m v + (lst src dst m v).length ≤ m := by
  have h1 := below_mono (src := src) (dst := dst) m (show v + 1 ≤ n by omega)
  have h2 := below_le (src := src) (dst := dst) n m
  rw [below] at h1
  omega

/-- Two places in the array are in one list or apart. -/
theorem seg_apart {m u v i j : Nat} (huv : u ≠ v) (hi : i < (lst src dst m u).length) (hj : j < (lst src dst m v).length) : below src dst m u + i ≠ below src dst m v + j := by
  rcases Nat.lt_or_gt_of_ne huv with h | h
  · have h1 := below_mono (src := src) (dst := dst) m (show u + 1 ≤ v by omega)
    rw [below] at h1; omega
  · have h1 := below_mono (src := src) (dst := dst) m (show v + 1 ≤ u by omega)
    rw [below] at h1; omega
end Go.Proofs.Qxb6000582a
