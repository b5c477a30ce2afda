import Derived.Test.Qxb6000541aSmall
namespace Go.Proofs.Qxb6000541a
open Go.RowKit Go.Maps

theorem below_a (w : World) (o : Obj) : Below w.heap.size w (w.alloc o) := (Below.refl _ _).alloc (Nat.le_refl _) o
theorem below_n {w w' : World} (h : Below w.heap.size w w') (n : Nat) : Below w.heap.size w (w'.drewN n) := ⟨h.os, h.tape, h.output, h.size, h.block⟩

theorem zzBlockList_none {w : World} {B pb sm ds cs n : Nat} {T : List Sc} {L : List (ByteArray × (ByteArray ⊕ (Int × ByteArray)))} (h : AMir w B pb sm ds cs T L n) {s : ByteArray} (hs : s.size ≤ maxLen) (hsc : scopeAt T s = none) :
    Calls Try.prog 32 #[.pointer (some ⟨pb, 0, none⟩), .string s] w fun e w' => e = .returned (.pointer none) ∧ w' = w := by
  have HM : Hid (AMir w B pb sm ds cs T L n ∧ s.size ≤ maxLen ∧ scopeAt T s = none) := ⟨h, hs, hsc⟩
  clear h hs hsc
  go_enter Try.func32, Try.ntmps32
  go_wp2_with fail
  refine (blockList_none HM.out.1 HM.out.2.1 HM.out.2.2).mono ?_
  rintro e w' ⟨rfl, hw⟩
  subst hw
  go_wp2
  go_ret
  exact ⟨rfl, rfl⟩
theorem zzBlockList_some {w : World} {B pb sm ds cs n : Nat} {T : List Sc} {L : List (ByteArray × (ByteArray ⊕ (Int × ByteArray)))} (h : AMir w B pb sm ds cs T L n) {s : ByteArray} (hs : s.size ≤ maxLen) {c : Sc} (hsc : scopeAt T s = some c) :
    Calls Try.prog 32 #[.pointer (some ⟨pb, 0, none⟩), .string s] w fun e w' => e = .returned (.pointer (some ⟨c.lb, c.lo, none⟩)) ∧ w' = w := by
  have HM : Hid (AMir w B pb sm ds cs T L n ∧ s.size ≤ maxLen ∧ scopeAt T s = some c) := ⟨h, hs, hsc⟩
  clear h hs hsc
  go_enter Try.func32, Try.ntmps32
  go_wp2_with fail
  refine (blockList_some HM.out.1 HM.out.2.1 HM.out.2.2).mono ?_
  rintro e w' ⟨rfl, hw⟩
  subst hw
  go_wp2
  go_ret
  exact ⟨rfl, rfl⟩

theorem listDomain_any {w : World} {B pb sm ds cs n : Nat} {T : List Sc} {L : List (ByteArray × (ByteArray ⊕ (Int × ByteArray)))} (h : AMir w B pb sm ds cs T L n) {c : Sc} (hc : c ∈ T) {d : ByteArray} (hd : d.size ≤ maxLen) :
    Calls Try.prog 33 #[.pointer (some ⟨c.lb, c.lo, none⟩), .string d] w fun e w' => e = .returned (.bool (hasL L c.name (.inl d))) ∧ w' = w := by
  have k0 := (h.scopes c hc).cell0
  have hl := h.lookDom hc hd
  clear h hc hd
  go_enter Try.func33, Try.ntmps33
  go_wp2
  go_ret
  exact ⟨rfl, rfl⟩

theorem listCategory_any {w : World} {B pb sm ds cs n : Nat} {T : List Sc} {L : List (ByteArray × (ByteArray ⊕ (Int × ByteArray)))} (h : AMir w B pb sm ds cs T L n) {c : Sc} (hc : c ∈ T) {tx : Int} {co : ByteArray} (htx : (Lit.int .i64 tx).wf = true) (hco : co.size ≤ maxLen) :
    Calls Try.prog 34 #[.pointer (some ⟨c.lb, c.lo, none⟩), .agg #[.int .i64 tx, .string co]] w fun e w' => e = .returned (.bool (hasL L c.name (.inr (tx, co)))) ∧ Below w.heap.size w w' := by
  have k0 := (h.scopes c hc).cell1
  have hlb := lt_of_cell k0
  simp only at hlb
  have hl : ∀ nq, (Instr.lookup 51 (.map (some c.cm)) (.agg #[.int .i64 tx, .string co]) false).run Try.prog ((w.alloc (.cells #[.int .i64 tx, .string co] 39)).drewN nq) = .ok (.bool (hasL L c.name (.inr (tx, co)))) ((w.alloc (.cells #[.int .i64 tx, .string co] 39)).drewN nq) := fun nq =>
    ((h.alloc _).drewN nq).lookCat hc htx hco
  clear h hc htx hco
  go_enter Try.func34, Try.ntmps34
  go_wp2
  go_quiet (fail)
  go_wp2
  go_ret
  exact ⟨rfl, below_n (below_a w _) nq⟩

theorem domainScopes_any {w : World} {B pb sm ds cs n : Nat} {T : List Sc} {L : List (ByteArray × (ByteArray ⊕ (Int × ByteArray)))} (h : AMir w B pb sm ds cs T L n) {d : ByteArray} (hd : d.size ≤ maxLen) :
    Calls Try.prog 35 #[.pointer (some ⟨pb, 0, none⟩), .string d] w fun e w' => e = .returned (.int .i64 (cntL L (.inl d))) ∧ w' = w := by
  obtain ⟨p1, pv, p3, pd, pc, p6, hblk⟩ := h.blk
  have k0 := (free_of_row hblk (o := 7) (v := .map (some ds)) rfl).cell
  have hl := h.lookDs hd
  clear h hd hblk
  go_enter Try.func35, Try.ntmps35
  go_wp2
  go_ret
  exact ⟨rfl, rfl⟩

theorem categoryScopes_any {w : World} {B pb sm ds cs n : Nat} {T : List Sc} {L : List (ByteArray × (ByteArray ⊕ (Int × ByteArray)))} (h : AMir w B pb sm ds cs T L n) {tx : Int} {co : ByteArray} (htx : (Lit.int .i64 tx).wf = true) (hco : co.size ≤ maxLen) :
    Calls Try.prog 36 #[.pointer (some ⟨pb, 0, none⟩), .agg #[.int .i64 tx, .string co]] w fun e w' => e = .returned (.int .i64 (cntL L (.inr (tx, co)))) ∧ Below w.heap.size w w' := by
  obtain ⟨p1, pv, p3, pd, pc, p6, hblk⟩ := h.blk
  have k0 := (free_of_row hblk (o := 8) (v := .map (some cs)) rfl).cell
  have hpb := lt_of_heap hblk
  have hl : ∀ nq, (Instr.lookup 57 (.map (some cs)) (.agg #[.int .i64 tx, .string co]) false).run Try.prog ((w.alloc (.cells #[.int .i64 tx, .string co] 39)).drewN nq) = .ok (.int .i64 (cntL L (.inr (tx, co)))) ((w.alloc (.cells #[.int .i64 tx, .string co] 39)).drewN nq) := fun nq =>
    ((h.alloc _).drewN nq).lookCs htx hco
  clear h htx hco hblk
  go_enter Try.func36, Try.ntmps36
  go_wp2
  go_quiet (fail)
  go_wp2
  go_ret
  exact ⟨rfl, below_n (below_a w _) nq⟩

/-- The block stands at that scope, and there is such a scope. -/
def hasB (T : List Sc) (L : List (ByteArray × (ByteArray ⊕ (Int × ByteArray)))) (s : ByteArray) (k : ByteArray ⊕ (Int × ByteArray)) : Bool := (scopeAt T s).isSome && hasL L s k

set_option maxHeartbeats 1000000 in
theorem hasBlock_any {w : World} {B pb sm ds cs n : Nat} {T : List Sc} {L : List (ByteArray × (ByteArray ⊕ (Int × ByteArray)))} (h : AMir w B pb sm ds cs T L n) {s d co : ByteArray} {tx : Int} (hs : s.size ≤ maxLen) (hd : d.size ≤ maxLen) (htx : (Lit.int .i64 tx).wf = true) (hco : co.size ≤ maxLen) :
    Calls Try.prog 25 #[.pointer (some ⟨pb, 0, none⟩), .string s, .agg #[.string d, .int .i64 tx, .string co]] w fun e w' => e = .returned (.bool (hasB T L s (blkKey d tx co))) ∧ Below w.heap.size w w' := by
  have HM : Hid (AMir w B pb sm ds cs T L n ∧ s.size ≤ maxLen ∧ d.size ≤ maxLen ∧ (Lit.int .i64 tx).wf = true ∧ co.size ≤ maxLen) := ⟨h, hs, hd, htx, hco⟩
  clear h hs hd htx hco
  cases hsc : scopeAt T s with
  | none =>
    have HS : Hid (scopeAt T s = none) := hsc
    clear hsc
    go_enter Try.func25, Try.ntmps25
    go_wp2_with fail
    refine (zzBlockList_none (HM.out.1.alloc _) HM.out.2.1 HS.out).mono ?_
    rintro e w' ⟨rfl, hw⟩
    subst hw
    go_wp2
    go_ret
    exact ⟨by unfold hasB; rw [HS.out]; rfl, below_a w _⟩
  | some c =>
    have HS : Hid (scopeAt T s = some c) := hsc
    clear hsc
    by_cases he : d = ByteArray.empty
    · have t := isEmpty_toList he
      have HE : Hid (hasB T L s (blkKey d tx co) = hasL L c.name (.inr (tx, co))) := by
        unfold Hid hasB blkKey
        rw [HS.out, if_pos he, (scopeAt_some HS.out).2]; simp
      clear he
      go_enter Try.func25, Try.ntmps25
      go_wp2_with fail
      refine (zzBlockList_some (HM.out.1.alloc _) HM.out.2.1 HS.out).mono ?_
      rintro e w' ⟨rfl, hw⟩
      subst hw
      go_wp2_with fail
      refine (listCategory_any (HM.out.1.alloc _) (scopeAt_some HS.out).1 HM.out.2.2.2.1 HM.out.2.2.2.2).mono ?_
      rintro e w' ⟨rfl, hb⟩
      have HB : Hid (Below w.heap.size w w') := (below_a w _).trans (hb.mono (by simp))
      clear hb
      go_wp2
      go_ret
      exact ⟨by rw [HE.out]; rfl, HB.out⟩
    · have t := not_isEmpty_toList he
      have HE : Hid (hasB T L s (blkKey d tx co) = hasL L c.name (.inl d)) := by
        unfold Hid hasB blkKey
        rw [HS.out, if_neg he, (scopeAt_some HS.out).2]; simp
      clear he
      go_enter Try.func25, Try.ntmps25
      go_wp2_with fail
      refine (zzBlockList_some (HM.out.1.alloc _) HM.out.2.1 HS.out).mono ?_
      rintro e w' ⟨rfl, hw⟩
      subst hw
      go_wp2_with fail
      refine (listDomain_any (HM.out.1.alloc _) (scopeAt_some HS.out).1 HM.out.2.2.1).mono ?_
      rintro e w' ⟨rfl, hw⟩
      subst hw
      go_wp2
      go_ret
      exact ⟨by rw [HE.out]; rfl, below_a w _⟩

set_option maxHeartbeats 1000000 in
theorem scopes_any {w : World} {B pb sm ds cs n : Nat} {T : List Sc} {L : List (ByteArray × (ByteArray ⊕ (Int × ByteArray)))} (h : AMir w B pb sm ds cs T L n) {d co : ByteArray} {tx : Int} (hd : d.size ≤ maxLen) (htx : (Lit.int .i64 tx).wf = true) (hco : co.size ≤ maxLen) :
    Calls Try.prog 26 #[.pointer (some ⟨pb, 0, none⟩), .agg #[.string d, .int .i64 tx, .string co]] w fun e w' => e = .returned (.int .i64 (cntL L (blkKey d tx co))) ∧ Below w.heap.size w w' := by
  have HM : Hid (AMir w B pb sm ds cs T L n ∧ d.size ≤ maxLen ∧ (Lit.int .i64 tx).wf = true ∧ co.size ≤ maxLen) := ⟨h, hd, htx, hco⟩
  clear h hd htx hco
  by_cases he : d = ByteArray.empty
  · have t := isEmpty_toList he
    have HE : Hid (blkKey d tx co = .inr (tx, co)) := if_pos he
    clear he
    go_enter Try.func26, Try.ntmps26
    go_wp2_with fail
    refine (categoryScopes_any (HM.out.1.alloc _) HM.out.2.2.1 HM.out.2.2.2).mono ?_
    rintro e w' ⟨rfl, hb⟩
    have HB : Hid (Below w.heap.size w w') := (below_a w _).trans (hb.mono (by simp))
    clear hb
    go_wp2
    go_ret
    exact ⟨by rw [HE.out]; rfl, HB.out⟩
  · have t := not_isEmpty_toList he
    have HE : Hid (blkKey d tx co = .inl d) := if_neg he
    clear he
    go_enter Try.func26, Try.ntmps26
    go_wp2_with fail
    refine (domainScopes_any (HM.out.1.alloc _) HM.out.2.1).mono ?_
    rintro e w' ⟨rfl, hw⟩
    subst hw
    go_wp2
    go_ret
    exact ⟨by rw [HE.out]; rfl, below_a w _⟩
end Go.Proofs.Qxb6000541a
