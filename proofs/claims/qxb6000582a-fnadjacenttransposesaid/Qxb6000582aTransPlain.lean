import Derived.Test.Qxb6000582aAdjPlain
namespace Go.Proofs.Qxb6000582a

def sumTo : Nat → (Nat → Nat) → Nat
  | 0, _ => 0
  | n + 1, f => sumTo n f + f n

theorem sumTo_congr {f g : Nat → Nat} : ∀ n, (∀ i, i < n → f i = g i) → sumTo n f = sumTo n g
  | 0, _ => rfl
  | n + 1, h => by rw [sumTo, sumTo, sumTo_congr n (fun i hi => h i (by omega)), h n (by omega)]
theorem sumTo_add (f g : Nat → Nat) : ∀ n, sumTo n (fun i => f i + g i) = sumTo n f + sumTo n g
  | 0 => rfl
  | n + 1 => by rw [sumTo, sumTo, sumTo, sumTo_add f g n]; omega
theorem sumTo_zero : ∀ n, sumTo n (fun _ => 0) = 0
  | 0 => rfl
  | n + 1 => by rw [sumTo, sumTo_zero n]
theorem sumTo_swap (b : Nat) (f : Nat → Nat → Nat) : ∀ a, sumTo a (fun v => sumTo b (f v)) = sumTo b (fun w => sumTo a (fun v => f v w))
  | 0 => (sumTo_zero b).symm
  | a + 1 => by
    rw [sumTo, sumTo_swap b f a, ← sumTo_add]
    rfl
theorem sumTo_le {f : Nat → Nat} {c : Nat} : ∀ n, (∀ i, i < n → f i ≤ c) → sumTo n f ≤ n * c
  | 0, _ => Nat.zero_le _
  | n + 1, h => by
    have h1 := sumTo_le n (fun i hi => h i (by omega))
    have h2 := h n (by omega)
    rw [sumTo, Nat.succ_mul]
    omega

theorem countP_split (zs : List Int) (n : Nat) : zs.countP (fun x => decide (x < ((n + 1 : Nat) : Int))) = zs.countP (fun x => decide (x < (n : Int))) + zs.count (n : Int) := by
  induction zs with
  | nil => rfl
  | cons z zs ih =>
    rw [List.countP_cons, List.countP_cons, List.count_cons, ih]
    simp only [decide_eq_true_eq, beq_iff_eq]
    by_cases h1 : z < (n : Int)
    · rw [if_pos (show z < ((n + 1 : Nat) : Int) by omega), if_pos h1, if_neg (show ¬ z = (n : Int) by omega)]; omega
    · by_cases h3 : z = (n : Int)
      · rw [if_pos (show z < ((n + 1 : Nat) : Int) by omega), if_neg h1, if_pos h3]; omega
      · rw [if_neg (show ¬ z < ((n + 1 : Nat) : Int) by omega), if_neg h1, if_neg h3]; omega

theorem count_one {zs : List Int} (h : zs.Nodup) {x : Int} (hx : x ∈ zs) : zs.count x = 1 := by
  have h1 := List.nodup_iff_count.1 h x
  have h2 := List.count_pos_iff.2 hx
  omega

/-- A strictly ascending list of numbers below n is as long as its members are many. -/
theorem length_eq_count {zs : List Int} (hp : zs.Pairwise (· < ·)) (n : Nat) : (zs.countP fun x => decide (x < (n : Int))) = (zs.countP fun x => decide (x < 0)) + sumTo n (fun w => if (w : Int) ∈ zs then 1 else 0) := by
  have hnd : zs.Nodup := hp.imp (fun h => by omega)
  induction n with
  | zero => simp [sumTo]
  | succ n ih =>
    rw [countP_split, ih, sumTo]
    by_cases h : (n : Int) ∈ zs
    · rw [if_pos h, count_one hnd h]; omega
    · rw [if_neg h, List.count_eq_zero.2 h]; omega

theorem uniq_count {zs : List Int} {n : Nat} (h : ∀ x ∈ zs, 0 ≤ x ∧ x < n) : (uniq zs).length = sumTo n (fun w => if (w : Int) ∈ zs then 1 else 0) := by
  have h1 := length_eq_count (uniq_spec zs).1 n
  have h2 : (uniq zs).countP (fun x => decide (x < (n : Int))) = (uniq zs).length := by
    rw [List.countP_eq_length]
    intro x hx
    simpa using (h x ((uniq_mem _ _).1 hx)).2
  have h3 : (uniq zs).countP (fun x => decide (x < 0)) = 0 := by
    rw [List.countP_eq_zero]
    intro x hx
    have := (h x ((uniq_mem _ _).1 hx)).1
    simp
    omega
  rw [h2, h3, Nat.zero_add] at h1
  rw [h1]
  exact sumTo_congr n (fun w _ => by simp only [uniq_mem])

/-- Both totals count the distinct pairs. -/
theorem totals_eq {s0 s1 : Nat → Nat} {n m : Nat} (h0 : ∀ i, i < m → s0 i < n) (h1 : ∀ i, i < m → s1 i < n) :
    sumTo n (fun v => (uniq (lst s0 (fun i => (s1 i : Int)) m v)).length) = sumTo n (fun w => (uniq (lst s1 (fun i => (s0 i : Int)) m w)).length) := by
  have e0 : ∀ v, (uniq (lst s0 (fun i => (s1 i : Int)) m v)).length = sumTo n (fun w => if (w : Int) ∈ lst s0 (fun i => (s1 i : Int)) m v then 1 else 0) := fun v => uniq_count (fun x hx => by
    obtain ⟨i, hi, _, hd⟩ := (mem_lst x v m).1 hx
    have := h1 i hi
    omega)
  have e1 : ∀ w, (uniq (lst s1 (fun i => (s0 i : Int)) m w)).length = sumTo n (fun v => if (v : Int) ∈ lst s1 (fun i => (s0 i : Int)) m w then 1 else 0) := fun v => uniq_count (fun x hx => by
    obtain ⟨i, hi, _, hd⟩ := (mem_lst x v m).1 hx
    have := h0 i hi
    omega)
  simp only [e0, e1]
  rw [sumTo_swap]
  refine sumTo_congr n (fun w _ => sumTo_congr n (fun v _ => ?_))
  have : ((w : Int) ∈ lst s0 (fun i => (s1 i : Int)) m v) ↔ ((v : Int) ∈ lst s1 (fun i => (s0 i : Int)) m w) := by
    rw [mem_lst, mem_lst]
    constructor
    · rintro ⟨i, hi, a, b⟩; exact ⟨i, hi, by omega, by omega⟩
    · rintro ⟨i, hi, a, b⟩; exact ⟨i, hi, by omega, by omega⟩
  simp only [this]
end Go.Proofs.Qxb6000582a
