import Derived.Test.Qxb6000541aAMir
import Derived.Deep.DrawnRows
namespace Go.Proofs.Qxb6000541a
open Go.RowKit Go.Maps

theorem zero77 (w : World) : (zeroValue 77).run Try.prog w = .ok (.pointer none) w := by kernel_rfl

theorem isEmpty_toList {s : ByteArray} (h : s = ByteArray.empty) : s.toList.isEmpty = true := by rw [h, ByteArray.toList_eq]; rfl
theorem not_isEmpty_toList {s : ByteArray} (h : s ≠ ByteArray.empty) : s.toList.isEmpty = false := by
  cases hs : s.toList.isEmpty
  · rfl
  · exfalso
    apply h
    rw [ByteArray.toList_eq] at hs
    obtain ⟨⟨l⟩⟩ := s
    simp at hs
    rw [hs]; rfl

/-- Where the block list of a scope lies. -/
def listAt (T : List Sc) (s : ByteArray) : Option Addr := (scopeAt T s).map fun c => ⟨c.lb, c.lo, none⟩

set_option maxHeartbeats 400000 in
theorem blockList_any {w : World} {B pb sm ds cs n : Nat} {T : List Sc} {L : List (ByteArray × (ByteArray ⊕ (Int × ByteArray)))} (h : AMir w B pb sm ds cs T L n) {s : ByteArray} (hs : s.size ≤ maxLen) :
    Calls Try.prog 37 #[.pointer (some ⟨pb, 0, none⟩), .string s] w fun e w' => e = .returned (.pointer (listAt T s)) ∧ w' = w := by
  obtain ⟨c1, cv, c3, bd, bc, c6, hblk⟩ := h.blk
  have k0 := (free_of_row hblk (o := 0) (v := .map (some sm)) rfl).cell
  obtain ⟨N, _, hsites⟩ := h.sites
  have hl := hsites.look law9 Try.underlying48 (zero77 _) (key9 hs)
  by_cases he : s = ByteArray.empty
  · obtain ⟨c, hc⟩ := Option.isSome_iff_exists.1 h.home
    have hc2 := (h.scopes c (scopeAt_some hc).1).top (scopeAt_some hc).2
    have hres : Hid (listAt T s = some ⟨pb, 4, none⟩) := by
      show (scopeAt T s).map _ = _
      rw [he, hc]
      simp [hc2]
    have t := isEmpty_toList he
    clear hl hsites hblk he hc2 hc h
    go_enter Try.func37, Try.ntmps37
    go_wp2
    go_ret
    exact ⟨by rw [hres.out]; rfl, rfl⟩
  · have t := not_isEmpty_toList he
    cases hsc : scopeAt T s with
    | none =>
      have hv : (siteOf T (.string s)).getD (.pointer none) = .pointer none := by simp [siteOf, he, hsc]
      rw [hv] at hl
      have hres : Hid (listAt T s = none) := by show (scopeAt T s).map _ = _; rw [hsc]; rfl
      clear hsites hblk he hsc h hv
      go_enter Try.func37, Try.ntmps37
      go_wp2
      go_ret
      exact ⟨by rw [hres.out]; rfl, rfl⟩
    | some c =>
      have hv : (siteOf T (.string s)).getD (.pointer none) = .pointer (some ⟨c.lb, 0, none⟩) := by simp [siteOf, he, hsc]
      rw [hv] at hl
      have hc2 := (h.scopes c (scopeAt_some hsc).1).site (by rw [(scopeAt_some hsc).2]; exact he)
      have hres : Hid (listAt T s = some ⟨c.lb, 3, none⟩) := by show (scopeAt T s).map _ = _; rw [hsc]; simp [hc2]
      clear hsites hblk he hsc h hv hc2
      go_enter Try.func37, Try.ntmps37
      go_wp2
      go_ret
      exact ⟨by rw [hres.out]; rfl, rfl⟩

theorem blockList_none {w : World} {B pb sm ds cs n : Nat} {T : List Sc} {L : List (ByteArray × (ByteArray ⊕ (Int × ByteArray)))} (h : AMir w B pb sm ds cs T L n) {s : ByteArray} (hs : s.size ≤ maxLen) (hsc : scopeAt T s = none) :
    Calls Try.prog 37 #[.pointer (some ⟨pb, 0, none⟩), .string s] w fun e w' => e = .returned (.pointer none) ∧ w' = w := by
  have := blockList_any h hs
  rw [show listAt T s = none from by show (scopeAt T s).map _ = _; rw [hsc]; rfl] at this
  exact this
theorem blockList_some {w : World} {B pb sm ds cs n : Nat} {T : List Sc} {L : List (ByteArray × (ByteArray ⊕ (Int × ByteArray)))} (h : AMir w B pb sm ds cs T L n) {s : ByteArray} (hs : s.size ≤ maxLen) {c : Sc} (hsc : scopeAt T s = some c) :
    Calls Try.prog 37 #[.pointer (some ⟨pb, 0, none⟩), .string s] w fun e w' => e = .returned (.pointer (some ⟨c.lb, c.lo, none⟩)) ∧ w' = w := by
  have := blockList_any h hs
  rw [show listAt T s = some ⟨c.lb, c.lo, none⟩ from by show (scopeAt T s).map _ = _; rw [hsc]; rfl] at this
  exact this

theorem ret_bool {a b : Bool} (h : a = b) : Ending.returned (.bool a) = .returned (.bool b) := by rw [h]
theorem cnt_one (c : Nat) : ((c : Int) + 1 == 1) = decide (c = 0) := by
  rw [Bool.eq_iff_iff]; simp; omega

set_option maxHeartbeats 1000000 in
/-- No such scope. -/
theorem add_none {w : World} {B pb sm ds cs n : Nat} {T : List Sc} {L : List (ByteArray × (ByteArray ⊕ (Int × ByteArray)))} (h : AMir w B pb sm ds cs T L n) {s d co : ByteArray} {tx : Int} (hs : s.size ≤ maxLen) (hsc : scopeAt T s = none) :
    Calls Try.prog 31 #[.pointer (some ⟨pb, 0, none⟩), .string s, .agg #[.string d, .int .i64 tx, .string co]] w fun e w' => e = .returned (.bool false) ∧ AMir w' B pb sm ds cs T L n ∧ Kept B w w' := by
  have HM : Hid (AMir w B pb sm ds cs T L n ∧ s.size ≤ maxLen ∧ scopeAt T s = none) := ⟨h, hs, hsc⟩
  clear h hs hsc
  go_enter Try.func31, Try.ntmps31
  go_wp2_with fail
  refine (blockList_none (HM.out.1.alloc _) HM.out.2.1 HM.out.2.2).mono ?_
  rintro e w' ⟨rfl, hw⟩
  subst hw
  go_wp2
  go_ret
  exact ⟨rfl, HM.out.1.alloc _, (Kept.refl B w).alloc _⟩

set_option maxHeartbeats 1000000 in
/-- A domain that stands at the scope. -/
theorem add_dom_old {w : World} {B pb sm ds cs n : Nat} {T : List Sc} {L : List (ByteArray × (ByteArray ⊕ (Int × ByteArray)))} (h : AMir w B pb sm ds cs T L n) {s d co : ByteArray} {tx : Int} (hs : s.size ≤ maxLen) (hd : d.size ≤ maxLen) {c : Sc} (hsc : scopeAt T s = some c) (hne : d ≠ ByteArray.empty) (hh : hasL L s (.inl d) = true) :
    Calls Try.prog 31 #[.pointer (some ⟨pb, 0, none⟩), .string s, .agg #[.string d, .int .i64 tx, .string co]] w fun e w' => e = .returned (.bool false) ∧ AMir w' B pb sm ds cs T L n ∧ Kept B w w' := by
  obtain ⟨hc, hcn⟩ := scopeAt_some hsc
  have HM : Hid (AMir w B pb sm ds cs T L n ∧ s.size ≤ maxLen ∧ scopeAt T s = some c) := ⟨h, hs, hsc⟩
  have hl : ∀ nq, (Instr.lookup 50 (.map (some c.dm)) (.string d) false).run Try.prog ((w.alloc (.cells #[.string d, .int .i64 tx, .string co] 41)).drewN nq) = .ok (.bool true) ((w.alloc (.cells #[.string d, .int .i64 tx, .string co] 41)).drewN nq) := fun nq => by
    rw [((h.alloc _).drewN nq).lookDom hc hd, hcn, hh]
  have k0 := (h.scopes c hc).cell0
  have hlb := lt_of_cell k0
  have t := not_isEmpty_toList hne
  simp only at hlb
  clear hsc h hne hh hc hcn hs hd
  go_enter Try.func31, Try.ntmps31
  go_wp2_with fail
  refine (blockList_some (HM.out.1.alloc _) HM.out.2.1 HM.out.2.2).mono ?_
  rintro e w' ⟨rfl, hw⟩
  subst hw
  go_wp2
  go_quiet (fail)
  go_wp2
  go_ret
  exact ⟨rfl, (HM.out.1.alloc _).drewN nq, ((Kept.refl B w).alloc _).drewN nq⟩

set_option maxHeartbeats 1000000 in
/-- A category that stands at the scope. -/
theorem add_cat_old {w : World} {B pb sm ds cs n : Nat} {T : List Sc} {L : List (ByteArray × (ByteArray ⊕ (Int × ByteArray)))} (h : AMir w B pb sm ds cs T L n) {s d co : ByteArray} {tx : Int} (hs : s.size ≤ maxLen) (htx : (Lit.int .i64 tx).wf = true) (hco : co.size ≤ maxLen) {c : Sc} (hsc : scopeAt T s = some c) (hne : d = ByteArray.empty) (hh : hasL L s (.inr (tx, co)) = true) :
    Calls Try.prog 31 #[.pointer (some ⟨pb, 0, none⟩), .string s, .agg #[.string d, .int .i64 tx, .string co]] w fun e w' => e = .returned (.bool false) ∧ AMir w' B pb sm ds cs T L n ∧ Kept B w w' := by
  obtain ⟨hc, hcn⟩ := scopeAt_some hsc
  have HM : Hid (AMir w B pb sm ds cs T L n ∧ s.size ≤ maxLen ∧ scopeAt T s = some c) := ⟨h, hs, hsc⟩
  have hl : ∀ nq, (Instr.lookup 51 (.map (some c.cm)) (.agg #[.int .i64 tx, .string co]) false).run Try.prog ((w.alloc (.cells #[.string d, .int .i64 tx, .string co] 41)).drewN nq) = .ok (.bool true) ((w.alloc (.cells #[.string d, .int .i64 tx, .string co] 41)).drewN nq) := fun nq => by
    rw [((h.alloc _).drewN nq).lookCat hc htx hco, hcn, hh]
  have k0 := (h.scopes c hc).cell1
  have hlb := lt_of_cell k0
  have t := isEmpty_toList hne
  simp only at hlb
  clear hsc h hne hh hc hcn hs hco htx
  go_enter Try.func31, Try.ntmps31
  go_wp2_with fail
  refine (blockList_some (HM.out.1.alloc _) HM.out.2.1 HM.out.2.2).mono ?_
  rintro e w' ⟨rfl, hw⟩
  subst hw
  go_wp2
  go_quiet (fail)
  go_wp2
  go_ret
  exact ⟨rfl, (HM.out.1.alloc _).drewN nq, ((Kept.refl B w).alloc _).drewN nq⟩

set_option maxHeartbeats 2000000 in
/-- A domain that does not stand at the scope. -/
theorem add_dom_new {w : World} {B pb sm ds cs n : Nat} {T : List Sc} {L : List (ByteArray × (ByteArray ⊕ (Int × ByteArray)))} (h : AMir w B pb sm ds cs T L n) (hn : n ≤ 5000) (hL : L.length ≤ 5000) {s d co : ByteArray} {tx : Int} (hs : s.size ≤ maxLen) (hd : d.size ≤ maxLen) {c : Sc} (hsc : scopeAt T s = some c) (hne : d ≠ ByteArray.empty) (hh : hasL L s (.inl d) = false) :
    Calls Try.prog 31 #[.pointer (some ⟨pb, 0, none⟩), .string s, .agg #[.string d, .int .i64 tx, .string co]] w fun e w' => e = .returned (.bool (decide (cntL L (.inl d) = 0))) ∧ AMir w' B pb sm ds cs T (L ++ [(s, .inl d)]) (n + 1) ∧ Kept B w w' := by
  obtain ⟨hc, hcn⟩ := scopeAt_some hsc
  have HM : Hid (AMir w B pb sm ds cs T L n ∧ s.size ≤ maxLen ∧ scopeAt T s = some c ∧ n ≤ 5000 ∧ d.size ≤ maxLen ∧ c ∈ T ∧ c.name = s) := ⟨h, hs, hsc, hn, hd, hc, hcn⟩
  have hl : ∀ nq, (Instr.lookup 50 (.map (some c.dm)) (.string d) false).run Try.prog ((w.alloc (.cells #[.string d, .int .i64 tx, .string co] 41)).drewN nq) = .ok (.bool false) ((w.alloc (.cells #[.string d, .int .i64 tx, .string co] 41)).drewN nq) := fun nq => by
    rw [((h.alloc _).drewN nq).lookDom hc hd, hcn, hh]
  have hcl : cntL L (.inl d) ≤ 5000 := Nat.le_trans (cntL_le _ _) hL
  have k0 := (h.scopes c hc).cell0
  have hlb := lt_of_cell k0
  have t := not_isEmpty_toList hne
  simp only at hlb
  clear hsc h hne hh hc hcn hs hd hn hL
  go_enter Try.func31, Try.ntmps31
  go_wp2_with fail
  refine (blockList_some (HM.out.1.alloc _) HM.out.2.1 HM.out.2.2.1).mono ?_
  rintro e w' ⟨rfl, hw⟩
  subst hw
  go_wp2
  go_quiet (fail)
  go_wp2
  have hA := (HM.out.1.alloc (.cells #[.string d, .int .i64 tx, .string co] 41)).drewN nq
  have HK : Hid (Kept B w ((w.alloc (.cells #[.string d, .int .i64 tx, .string co] 41)).drewN nq)) := ((Kept.refl B w).alloc _).drewN nq
  have hbx : ((w.alloc (.cells #[.string d, .int .i64 tx, .string co] 41)).drewN nq).heap[w.heap.size]? = some (.cells #[.string d, .int .i64 tx, .string co] 41 (0, 0)) := heap_alloc_new w _
  clear hl k0
  generalize ((w.alloc (.cells #[.string d, .int .i64 tx, .string co] 41)).drewN nq) = W at *
  obtain ⟨w2, w3, r1, r2, r3, hA3, hK3, hcells⟩ := hA.domStep HM.out.2.2.2.2.2.1 HM.out.2.2.2.2.1 HM.out.2.2.2.1
  obtain ⟨p1, pv, p3, pd, pc, p6, hpb⟩ := hA.blk
  have k0 := (hA.scopes c HM.out.2.2.2.2.2.1).cell0
  have b0 := (free_of_row hbx (o := 0) (v := .string d) rfl).cell
  have b2 := (free_of_row (hcells _ _ _ _ hbx).1 (o := 0) (v := .string d) rfl).cell
  have b3 := (free_of_row (hcells _ _ _ _ hbx).2 (o := 0) (v := .string d) rfl).cell
  have p2 := (free_of_row (hcells _ _ _ _ hpb).1 (o := 7) (v := .map (some ds)) rfl).cell
  have p3 := (free_of_row (hcells _ _ _ _ hpb).2 (o := 7) (v := .map (some ds)) rfl).cell
  have l3 : ∀ m, (Instr.lookup 56 (.map (some ds)) (.string d) false).run Try.prog (w3.drewN m) = .ok (.int .i64 ((cntL L (.inl d) : Int) + 1)) (w3.drewN m) := fun m => by
    rw [(hA3.drewN m).lookDs HM.out.2.2.2.2.1, cntL_snoc, if_pos rfl]; rfl
  have HF : Hid (∀ m, AMir (w3.drewN m) B pb sm ds cs T (L ++ [(s, .inl d)]) (n + 1) ∧ Kept B w (w3.drewN m)) := fun m => ⟨by rw [← HM.out.2.2.2.2.2.2]; exact hA3.drewN m, (HK.out.trans hK3).drewN m⟩
  clear hA hA3 hK3 hcells hpb hbx HM
  go_region
  clear r1 k0 b0
  go_wp2
  go_region
  clear r2 r3 b2 p2
  go_wp2
  go_quiet (fail)
  go_wp2
  go_ret
  exact ⟨ret_bool (cnt_one _), HF.out _⟩

set_option maxHeartbeats 2000000 in
/-- A category that does not stand at the scope. -/
theorem add_cat_new {w : World} {B pb sm ds cs n : Nat} {T : List Sc} {L : List (ByteArray × (ByteArray ⊕ (Int × ByteArray)))} (h : AMir w B pb sm ds cs T L n) (hn : n ≤ 5000) (hL : L.length ≤ 5000) {s d co : ByteArray} {tx : Int} (hs : s.size ≤ maxLen) (htx : (Lit.int .i64 tx).wf = true) (hco : co.size ≤ maxLen) {c : Sc} (hsc : scopeAt T s = some c) (hne : d = ByteArray.empty) (hh : hasL L s (.inr (tx, co)) = false) :
    Calls Try.prog 31 #[.pointer (some ⟨pb, 0, none⟩), .string s, .agg #[.string d, .int .i64 tx, .string co]] w fun e w' => e = .returned (.bool (decide (cntL L (.inr (tx, co)) = 0))) ∧ AMir w' B pb sm ds cs T (L ++ [(s, .inr (tx, co))]) (n + 1) ∧ Kept B w w' := by
  obtain ⟨hc, hcn⟩ := scopeAt_some hsc
  have HM : Hid (AMir w B pb sm ds cs T L n ∧ s.size ≤ maxLen ∧ scopeAt T s = some c ∧ n ≤ 5000 ∧ co.size ≤ maxLen ∧ c ∈ T ∧ c.name = s ∧ (Lit.int .i64 tx).wf = true) := ⟨h, hs, hsc, hn, hco, hc, hcn, htx⟩
  have hl : ∀ nq, (Instr.lookup 51 (.map (some c.cm)) (.agg #[.int .i64 tx, .string co]) false).run Try.prog ((w.alloc (.cells #[.string d, .int .i64 tx, .string co] 41)).drewN nq) = .ok (.bool false) ((w.alloc (.cells #[.string d, .int .i64 tx, .string co] 41)).drewN nq) := fun nq => by
    rw [((h.alloc _).drewN nq).lookCat hc htx hco, hcn, hh]
  have hcl : cntL L (.inr (tx, co)) ≤ 5000 := Nat.le_trans (cntL_le _ _) hL
  have k0 := (h.scopes c hc).cell1
  have hlb := lt_of_cell k0
  have t := isEmpty_toList hne
  simp only at hlb
  clear hsc h hne hh hc hcn hs hco hn hL htx
  go_enter Try.func31, Try.ntmps31
  go_wp2_with fail
  refine (blockList_some (HM.out.1.alloc _) HM.out.2.1 HM.out.2.2.1).mono ?_
  rintro e w' ⟨rfl, hw⟩
  subst hw
  go_wp2
  go_quiet (fail)
  go_wp2
  have hA := (HM.out.1.alloc (.cells #[.string d, .int .i64 tx, .string co] 41)).drewN nq
  have HK : Hid (Kept B w ((w.alloc (.cells #[.string d, .int .i64 tx, .string co] 41)).drewN nq)) := ((Kept.refl B w).alloc _).drewN nq
  have hbx : ((w.alloc (.cells #[.string d, .int .i64 tx, .string co] 41)).drewN nq).heap[w.heap.size]? = some (.cells #[.string d, .int .i64 tx, .string co] 41 (0, 0)) := heap_alloc_new w _
  clear hl k0
  generalize ((w.alloc (.cells #[.string d, .int .i64 tx, .string co] 41)).drewN nq) = W at *
  obtain ⟨w2, w3, v0, st, w4, r1, r2, r3, r5, r4, hA4, hK4, hcells⟩ := hA.catStep HM.out.2.2.2.2.2.1 HM.out.2.2.2.2.2.2.2 HM.out.2.2.2.2.1 HM.out.2.2.2.1
  obtain ⟨p1, pv, p3, pd, pc, p6, hpb⟩ := hA.blk
  have k0 := (hA.scopes c HM.out.2.2.2.2.2.1).cell1
  have b0 := (free_of_row hbx (o := 1) (v := .int .i64 tx) rfl).cell
  have b0' := (free_of_row hbx (o := 2) (v := .string co) rfl).cell
  have b2 := (free_of_row (hcells _ _ _ _ hbx).1 (o := 1) (v := .int .i64 tx) rfl).cell
  have b2' := (free_of_row (hcells _ _ _ _ hbx).1 (o := 2) (v := .string co) rfl).cell
  have b3 := (free_of_row (hcells _ _ _ _ hbx).2.1 (o := 1) (v := .int .i64 tx) rfl).cell
  have b3' := (free_of_row (hcells _ _ _ _ hbx).2.1 (o := 2) (v := .string co) rfl).cell
  have b4 := (free_of_row (hcells _ _ _ _ hbx).2.2 (o := 1) (v := .int .i64 tx) rfl).cell
  have b4' := (free_of_row (hcells _ _ _ _ hbx).2.2 (o := 2) (v := .string co) rfl).cell
  have p2 := (free_of_row (hcells _ _ _ _ hpb).1 (o := 8) (v := .map (some cs)) rfl).cell
  have p3 := (free_of_row (hcells _ _ _ _ hpb).2.1 (o := 8) (v := .map (some cs)) rfl).cell
  have p4 := (free_of_row (hcells _ _ _ _ hpb).2.2 (o := 8) (v := .map (some cs)) rfl).cell
  have l3 : ∀ m, (Instr.lookup 57 (.map (some cs)) (.agg #[.int .i64 tx, .string co]) false).run Try.prog (w4.drewN m) = .ok (.int .i64 ((cntL L (.inr (tx, co)) : Int) + 1)) (w4.drewN m) := fun m => by
    rw [(hA4.drewN m).lookCs HM.out.2.2.2.2.2.2.2 HM.out.2.2.2.2.1, cntL_snoc, if_pos rfl]; rfl
  have HF : Hid (∀ m, AMir (w4.drewN m) B pb sm ds cs T (L ++ [(s, .inr (tx, co))]) (n + 1) ∧ Kept B w (w4.drewN m)) := fun m => ⟨by rw [← HM.out.2.2.2.2.2.2.1]; exact hA4.drewN m, (HK.out.trans hK4).drewN m⟩
  clear hA hA4 hK4 hcells hpb hbx HM
  go_region
  clear r1 k0 b0 b0'
  go_wp2
  go_region
  clear r2 r3 r4 r5 b2 b2' b3 b3' p2 p3
  go_wp2
  go_quiet (fail)
  go_wp2
  go_ret
  exact ⟨ret_bool (cnt_one _), HF.out _⟩
end Go.Proofs.Qxb6000541a
