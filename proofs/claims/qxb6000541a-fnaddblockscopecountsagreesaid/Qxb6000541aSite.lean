import Derived.Test.Qxb6000541aSmall
import Derived.Test.Qxb6000541aMir
import Derived.Deep.RegionHeld3
namespace Go.Proofs.Qxb6000541a
open Go.RowKit Go.Maps
attribute [local go_sem ↓] Go.wp_at_zero Go.wp_at_succ

theorem scopeAt_cons (c : Sc) (T : List Sc) (s : ByteArray) : scopeAt (c :: T) s = if c.name = s then some c else scopeAt T s := by
  unfold scopeAt
  rw [List.find?_cons]
  by_cases h : c.name = s <;> simp [h]

theorem siteOf_top (c : Sc) (h : c.name = ByteArray.empty) : siteOf [c] = fun _ => none := by
  funext x
  cases x <;> try rfl
  rename_i s
  simp only [siteOf]
  split
  · rfl
  · rename_i hs
    rw [scopeAt_cons, if_neg (fun e => hs (by rw [← e, h]))]
    rfl

theorem domOf_nil (s : ByteArray) : domOf [] s = fun _ => none := by
  funext x
  cases x <;> rfl
theorem catOf_nil (s : ByteArray) : catOf [] s = fun _ => none := by
  funext x
  unfold catOf
  cases catPair x <;> rfl
theorem dcnt_nil : dcnt [] = fun _ => none := by
  funext x
  cases x <;> rfl
theorem ccnt_nil : ccnt [] = fun _ => none := by
  funext x
  unfold ccnt
  cases catPair x <;> rfl

theorem made_at (w : World) (k : TypeId) {m : Nat} (hm : w.heap.size = m) : MapIs (w.alloc (.map #[] 0)) k m 0 (fun _ => none) := by
  rw [← hm]; exact MapIs.made w k

/-- A new mirror: one scope, no block. -/
theorem newMirror_a (w : World) {B : Nat} (hB : B ≤ w.heap.size) : Calls Try.prog 11 #[] w fun e w' => ∃ pb sm ds cs T, e = .returned (.pointer (some ⟨pb, 0, none⟩)) ∧ AMir w' B pb sm ds cs T [] 0 ∧ MapIs w' 9 sm 0 (siteOf T) ∧ Kept B w w' ∧ ∀ s, (scopeAt T s).isSome = true ↔ s = ByteArray.empty := by
  refine (newMirror_any w).mono ?_
  rintro e w' ⟨rfl, rfl⟩
  have hs : MapIs _ 9 w.heap.size 0 (fun _ => none) := made_at w 9 rfl
  refine ⟨_, w.heap.size, w.heap.size + 1 + 1 + 1 + 1 + 1 + 1 + 1, w.heap.size + 1 + 1 + 1 + 1 + 1 + 1 + 1 + 1, [⟨ByteArray.empty, w.heap.size + 1 + 1 + 1 + 1 + 1 + 1 + 1 + 1 + 1, 4, w.heap.size + 1 + 1 + 1 + 1, w.heap.size + 1 + 1 + 1 + 1 + 1⟩], rfl, ?_, ?_, ?_, ?_⟩
  · refine ⟨by omega, hB, by omega, by omega, by simp [mapsOf]; omega, by simp, ⟨_, _, _, _, _, _, heap_at _ _ (by simp)⟩, fun c hc => ?_, by simp [scopeAt_cons], ⟨0, by omega, ?_⟩, ?_, ?_⟩
    · simp at hc
      subst hc
      refine ⟨fun _ => ⟨rfl, rfl⟩, fun h => absurd rfl h, by simp only; omega, by simp only; omega, by simp only; omega, ?_, ?_, ?_, ?_, ⟨_, _, _, heap_at _ _ (by simp), .inl rfl⟩⟩
      · exact (free_of_row (heap_at _ _ (by simp)) rfl).cell
      · exact (free_of_row (heap_at _ _ (by simp)) rfl).cell
      · rw [domOf_nil]
        exact ((((((made_at _ 9 (by simp)).alloc _).alloc _).alloc _).alloc _).alloc _)
      · rw [catOf_nil]
        exact (((((made_at _ 39 (by simp)).alloc _).alloc _).alloc _).alloc _)
    · rw [siteOf_top _ rfl]
      exact (((((((((hs.alloc _).alloc _).alloc _).alloc _).alloc _).alloc _).alloc _).alloc _).alloc _)
    · rw [dcnt_nil]
      exact (((made_at _ 9 (by simp)).alloc _).alloc _)
    · rw [ccnt_nil]
      exact ((made_at _ 39 (by simp)).alloc _)
  · rw [siteOf_top _ rfl]
    exact (((((((((hs.alloc _).alloc _).alloc _).alloc _).alloc _).alloc _).alloc _).alloc _).alloc _)
  · exact (((((((((((Kept.refl B w).alloc _).alloc _).alloc _).alloc _).alloc _).alloc _).alloc _).alloc _).alloc _).alloc _)
  · intro s
    rw [scopeAt_cons]
    by_cases h : ByteArray.empty = s
    · simp [h]
    · simp only [h, if_false]
      simp [scopeAt]
      exact fun e => h e.symm

/-- The table with a new site. -/
def addScope (T : List Sc) (s : ByteArray) (lb dm cm : Nat) : List Sc := ⟨s, lb, 3, dm, cm⟩ :: T.filter (fun c => decide (c.name ≠ s))

theorem mapsOf_sub (p : Sc → Bool) : ∀ T : List Sc, (mapsOf (T.filter p)).Sublist (mapsOf T)
  | [] => List.Sublist.refl _
  | c :: T => by
    have ih := mapsOf_sub p T
    rw [List.filter_cons]
    split
    · exact (List.Sublist.refl [c.dm, c.cm]).append ih
    · exact ih.trans (List.sublist_append_right [c.dm, c.cm] (mapsOf T))

theorem scopeAt_filter (s x : ByteArray) (h : x ≠ s) : ∀ T : List Sc, scopeAt (T.filter (fun c => decide (c.name ≠ s))) x = scopeAt T x
  | [] => rfl
  | c :: T => by
    rw [List.filter_cons]
    by_cases hc : c.name = s
    · rw [if_neg (by simp [hc]), scopeAt_filter s x h T, scopeAt_cons, if_neg (fun e => h (e.symm.trans hc))]
    · rw [if_pos (by simp [hc]), scopeAt_cons, scopeAt_cons, scopeAt_filter s x h T]

theorem scopeAt_add (T : List Sc) (s x : ByteArray) (lb dm cm : Nat) : scopeAt (addScope T s lb dm cm) x = if s = x then some ⟨s, lb, 3, dm, cm⟩ else scopeAt T x := by
  unfold addScope
  rw [scopeAt_cons]
  by_cases h : s = x
  · simp [h]
  · simp only [h, if_false]
    exact scopeAt_filter s x (Ne.symm h) T

theorem siteOf_add_same {T : List Sc} {s : ByteArray} (hs : s ≠ ByteArray.empty) (lb dm cm : Nat) : siteOf (addScope T s lb dm cm) (.string s) = some (.pointer (some ⟨lb, 0, none⟩)) := by
  simp only [siteOf, hs, if_false, scopeAt_add, if_true]
  rfl
theorem siteOf_add_other {T : List Sc} {s : ByteArray} (lb dm cm : Nat) {x : Value} (hx : x ≠ .string s) : siteOf (addScope T s lb dm cm) x = siteOf T x := by
  cases x <;> try rfl
  rename_i y
  have : ¬ s = y := fun e => hx (by rw [e])
  simp only [siteOf, scopeAt_add, this, if_false]

theorem AMir.addSite {w w' : World} {B pb sm ds cs n : Nat} {T : List Sc} (h : AMir w B pb sm ds cs T [] n) {s : ByteArray} (hs : s ≠ ByteArray.empty) {lb dm cm N : Nat}
    (hold : ∀ k, k < w.heap.size → k ≠ sm → w'.heap[k]? = w.heap[k]?) (l1 : w.heap.size ≤ lb) (l2 : w.heap.size ≤ dm) (l3 : w.heap.size ≤ cm) (hne : dm ≠ cm)
    (c0 : w'.cell? ⟨lb, 3, none⟩ = some (.map (some dm))) (c1 : w'.cell? ⟨lb, 4, none⟩ = some (.map (some cm))) (m0 : MapIs w' 9 dm 0 (fun _ => none)) (m1 : MapIs w' 39 cm 0 (fun _ => none)) (htag : ∃ x e z, w'.heap[lb]? = some (.cells x e z) ∧ (e = 60 ∨ e = 81))
    (hN : N ≤ 5000) (hsm : MapIs w' 9 sm N (siteOf (addScope T s lb dm cm))) : AMir w' B pb sm ds cs (addScope T s lb dm cm) [] n := by
  obtain ⟨lp, ls, ld, lc, hnd, hnm, ⟨p1, pv, p3, pd, pc, p6, hblk⟩, hsc, hhome, ⟨N0, _, hsites⟩, hds, hcs⟩ := h
  obtain ⟨n1, n2, n3, n4, n5⟩ := nodup_parts hnd
  have hBw : B ≤ w.heap.size := Nat.le_of_lt (Nat.lt_of_le_of_lt lp (lt_of_heap hblk))
  have hmlt : ∀ x ∈ mapsOf T, x < w.heap.size := fun x hx => by
    obtain ⟨c, hc, hx⟩ := List.mem_flatMap.1 hx
    simp at hx
    rcases hx with rfl | rfl
    · exact (hsc c hc).dom.lt
    · exact (hsc c hc).cat.lt
  have hsub := mapsOf_sub (fun c => decide (c.name ≠ s)) T
  have hsl := hsites.lt
  have hdl := hds.lt
  have hcl := hcs.lt
  have cells_ne : ∀ {k : Nat} {x : Array Value} {e : TypeId} {z : Nat × Nat}, w.heap[k]? = some (.cells x e z) → k ≠ sm := fun hk => hsites.ne hk
  refine ⟨lp, ls, ld, lc, ?_, ?_, ⟨p1, pv, p3, pd, pc, p6, (hold pb (lt_of_heap hblk) (cells_ne hblk)).trans hblk⟩, fun c hc => ?_, ?_, ⟨N, hN, hsm⟩, hds.of_block (hold ds hdl (Ne.symm n3)), hcs.of_block (hold cs hcl (Ne.symm n4))⟩
  · show ([dm, cm] ++ mapsOf (T.filter _) ++ [sm, ds, cs]).Nodup
    rw [List.append_assoc]
    refine List.nodup_append.2 ⟨by simpa using hne, (hsub.append (List.Sublist.refl _)).nodup hnd, fun x hx y hy e => ?_⟩
    have hxw : w.heap.size ≤ x := by simp at hx; omega
    have hyw : y < w.heap.size := by
      rcases List.mem_append.1 hy with hy | hy
      · exact hmlt y (hsub.mem hy)
      · simp at hy; omega
    omega
  · show (s :: (T.filter (fun c => decide (c.name ≠ s))).map Sc.name).Nodup
    refine List.nodup_cons.2 ⟨fun hm => ?_, (List.filter_sublist.map _).nodup hnm⟩
    obtain ⟨c, hc, e⟩ := List.mem_map.1 hm
    have := (List.mem_filter.1 hc).2
    simp at this
    exact this e
  · rcases List.mem_cons.1 hc with hc | hc
    · subst hc
      refine ⟨fun e => absurd e hs, fun _ => rfl, Nat.le_trans hBw l1, Nat.le_trans hBw l2, Nat.le_trans hBw l3, c0, c1, ?_, ?_, htag⟩
      · rw [domOf_nil]; exact m0.mono (Nat.zero_le n)
      · rw [catOf_nil]; exact m1.mono (Nat.zero_le n)
    · have hcT := (List.mem_filter.1 hc).1
      have k := hsc c hcT
      have mm := mem_mapsOf hcT
      refine k.of_blocks ?_ (hold c.dm k.dom.lt (n2 _ mm.1).1) (hold c.cm k.cat.lt (n2 _ mm.2).1)
      refine hold c.lb (lt_of_cell k.cell0) (fun e => ?_)
      obtain ⟨es, ck, hb⟩ := hsites.block
      have hk0 := k.cell0
      rw [e] at hk0
      simp [World.cell?, hb] at hk0
  · rw [scopeAt_add, if_neg hs]; exact hhome

/-- What the six new blocks of ZZAddSite come to. -/
theorem site_done {w w' : World} {B pb sm ds cs n N : Nat} {T : List Sc} (h : AMir w B pb sm ds cs T [] n) {s : ByteArray} (hs : s ≠ ByteArray.empty) {o1 o2 o3 o4 o5 o6 : Obj} {lb dm cm : Nat}
    (hg : (((((((w.alloc o1).alloc o2).alloc o3).alloc o4).alloc o5).alloc o6).drew).grownBy w' (some sm)) (l1 : w.heap.size ≤ lb) (l2 : w.heap.size ≤ dm) (l3 : w.heap.size ≤ cm) (hne : dm ≠ cm)
    {y0 y1 y2 y5 : Value} (hlb : (((((((w.alloc o1).alloc o2).alloc o3).alloc o4).alloc o5).alloc o6)).heap[lb]? = some (.cells #[y0, y1, y2, .map (some dm), .map (some cm), y5] 81 (0, 0)))
    (m0 : MapIs ((((((w.alloc o1).alloc o2).alloc o3).alloc o4).alloc o5).alloc o6) 9 dm 0 (fun _ => none)) (m1 : MapIs ((((((w.alloc o1).alloc o2).alloc o3).alloc o4).alloc o5).alloc o6) 39 cm 0 (fun _ => none))
    (hN : N ≤ 5000) (hsm : MapIs w' 9 sm N (siteOf (addScope T s lb dm cm))) : AMir w' B pb sm ds cs (addScope T s lb dm cm) [] n ∧ Kept B w w' := by
  obtain ⟨N0, _, hsites⟩ := h.sites
  have hsl := hsites.lt
  have hold : ∀ k, k < w.heap.size → k ≠ sm → w'.heap[k]? = w.heap[k]? := fun k hk hks => by
    rw [hg.block k (by show k < ((((((w.alloc o1).alloc o2).alloc o3).alloc o4).alloc o5).alloc o6).heap.size; simp; omega) (fun e => hks (by simpa using e))]
    show ((((((w.alloc o1).alloc o2).alloc o3).alloc o4).alloc o5).alloc o6).heap[k]? = _
    rw [Below.heap_alloc _ _ _ (by simp; omega), Below.heap_alloc _ _ _ (by simp; omega), Below.heap_alloc _ _ _ (by simp; omega), Below.heap_alloc _ _ _ (by simp; omega), Below.heap_alloc _ _ _ (by simp; omega), Below.heap_alloc _ _ _ hk]
  have hblk : ∀ k, w.heap.size ≤ k → k < ((((((w.alloc o1).alloc o2).alloc o3).alloc o4).alloc o5).alloc o6).heap.size → w'.heap[k]? = ((((((w.alloc o1).alloc o2).alloc o3).alloc o4).alloc o5).alloc o6).heap[k]? := fun k hk hk2 => hg.block k hk2 (fun e => by
    have : k = sm := by simpa using e
    omega)
  have hlb' := (hblk lb l1 (lt_of_heap hlb)).trans hlb
  refine ⟨h.addSite hs hold l1 l2 l3 hne (free_of_row hlb' rfl).cell (free_of_row hlb' rfl).cell (m0.of_block (hblk dm l2 m0.lt)) (m1.of_block (hblk cm l3 m1.lt)) ⟨_, _, _, hlb', .inr rfl⟩ hN hsm, ?_⟩
  obtain ⟨es, ck, hb⟩ := hsites.block
  exact Kept.grown (((((((Kept.refl B w).alloc o1).alloc o2).alloc o3).alloc o4).alloc o5).alloc o6).drew hg (fun k hk => by
    cases hk
    exact Mine.map h.lowS (heap_a (heap_a (heap_a (heap_a (heap_a (heap_a hb))))) : ((((((w.alloc o1).alloc o2).alloc o3).alloc o4).alloc o5).alloc o6).drew.heap[sm]? = _))

set_option maxHeartbeats 2000000 in
theorem addSite_any {w : World} {B pb sm ds cs n N : Nat} {T : List Sc} (h : AMir w B pb sm ds cs T [] n) (hN : N < 5000) (hsites : MapIs w 9 sm N (siteOf T)) {s : ByteArray} (hs : s ≠ ByteArray.empty) (hsz : s.size ≤ maxLen) :
    Calls Try.prog 30 #[.pointer (some ⟨pb, 0, none⟩), .string s] w fun e w' => e = .returned (.tuple #[]) ∧ ∃ T', AMir w' B pb sm ds cs T' [] n ∧ MapIs w' 9 sm (N + 1) (siteOf T') ∧ Kept B w w' ∧ ∀ x, (scopeAt T' x).isSome = true ↔ x = s ∨ (scopeAt T x).isSome = true := by
  have hmm := @run_makeMap Try.prog
  obtain ⟨p1, pv, p3, pd, pc, p6, hblk⟩ := h.blk
  have k0 := (free_of_row hblk (o := 0) (v := .map (some sm)) rfl).cell
  have hsitesA := (((((hsites.alloc (.map #[] 0)).alloc (.cells #[.map (some (w.heap.size + 1 + 1)), .map (some (w.heap.size + 1 + 1 + 1)), .map (some (w.heap.size + 1 + 1 + 1 + 1))] 54)).alloc (.map #[] 0)).alloc (.map #[] 0)).alloc (.map #[] 0)).alloc (.cells #[.string s, .string ⟨#[]⟩, .map (some w.heap.size), .map (some (w.heap.size + 1 + 1)), .map (some (w.heap.size + 1 + 1 + 1)), .map (some (w.heap.size + 1 + 1 + 1 + 1))] 81)
  have hsitesB := (((((hsites.alloc (.cells #[.map (some (w.heap.size + 1)), .map (some (w.heap.size + 1 + 1)), .map (some (w.heap.size + 1 + 1 + 1))] 54)).alloc (.map #[] 0)).alloc (.map #[] 0)).alloc (.map #[] 0)).alloc (.map #[] 0)).alloc (.cells #[.string s, .string ⟨#[]⟩, .map (some (w.heap.size + 1 + 1 + 1 + 1)), .map (some (w.heap.size + 1)), .map (some (w.heap.size + 1 + 1)), .map (some (w.heap.size + 1 + 1 + 1))] 81)
  obtain ⟨wA, hmuA, hmsA, hgA, hzA⟩ := (hsitesA.of_block (w' := ((((((w.alloc (.map #[] 0)).alloc (.cells #[.map (some (w.heap.size + 1 + 1)), .map (some (w.heap.size + 1 + 1 + 1)), .map (some (w.heap.size + 1 + 1 + 1 + 1))] 54)).alloc (.map #[] 0)).alloc (.map #[] 0)).alloc (.map #[] 0)).alloc (.cells #[.string s, .string ⟨#[]⟩, .map (some w.heap.size), .map (some (w.heap.size + 1 + 1)), .map (some (w.heap.size + 1 + 1 + 1)), .map (some (w.heap.size + 1 + 1 + 1 + 1))] 81)).drew) rfl).store law9 Try.underlying48 (by unfold maxLen; omega) (key9 hsz) (.pointer (some ⟨w.heap.size + 1 + 1 + 1 + 1 + 1, 0, none⟩)) (siteOf_add_same (T := T) hs (w.heap.size + 1 + 1 + 1 + 1 + 1) (w.heap.size + 1 + 1) (w.heap.size + 1 + 1 + 1)) (fun x _ hx => siteOf_add_other (w.heap.size + 1 + 1 + 1 + 1 + 1) (w.heap.size + 1 + 1) (w.heap.size + 1 + 1 + 1) hx)
  obtain ⟨wB, hmuB, hmsB, hgB, hzB⟩ := (hsitesB.of_block (w' := ((((((w.alloc (.cells #[.map (some (w.heap.size + 1)), .map (some (w.heap.size + 1 + 1)), .map (some (w.heap.size + 1 + 1 + 1))] 54)).alloc (.map #[] 0)).alloc (.map #[] 0)).alloc (.map #[] 0)).alloc (.map #[] 0)).alloc (.cells #[.string s, .string ⟨#[]⟩, .map (some (w.heap.size + 1 + 1 + 1 + 1)), .map (some (w.heap.size + 1)), .map (some (w.heap.size + 1 + 1)), .map (some (w.heap.size + 1 + 1 + 1))] 81)).drew) rfl).store law9 Try.underlying48 (by unfold maxLen; omega) (key9 hsz) (.pointer (some ⟨w.heap.size + 1 + 1 + 1 + 1 + 1, 0, none⟩)) (siteOf_add_same (T := T) hs (w.heap.size + 1 + 1 + 1 + 1 + 1) (w.heap.size + 1) (w.heap.size + 1 + 1)) (fun x _ hx => siteOf_add_other (w.heap.size + 1 + 1 + 1 + 1 + 1) (w.heap.size + 1) (w.heap.size + 1 + 1) hx)
  have fA := site_done h hs hgA (by omega) (by omega) (by omega) (by omega) (heap_at _ _ (by simp)) ((((made_at _ 9 (by simp)).alloc _).alloc _).alloc _) (((made_at _ 39 (by simp)).alloc _).alloc _) (by omega) hmsA
  have fB := site_done h hs hgB (by omega) (by omega) (by omega) (by omega) (heap_at _ _ (by simp)) (((((made_at _ 9 (by simp)).alloc _).alloc _).alloc _).alloc _) ((((made_at _ 39 (by simp)).alloc _).alloc _).alloc _) (by omega) hmsB
  have hex : ∀ lb dm cm x, (scopeAt (addScope T s lb dm cm) x).isSome = true ↔ x = s ∨ (scopeAt T x).isSome = true := fun lb dm cm x => by
    rw [scopeAt_add]
    by_cases e : s = x
    · simp [e]
    · simp only [e, if_false]
      exact ⟨.inr, fun h => h.resolve_left (fun e' => e e'.symm)⟩
  have FA : Hid (∃ T', AMir wA B pb sm ds cs T' [] n ∧ MapIs wA 9 sm (N + 1) (siteOf T') ∧ Kept B w wA ∧ ∀ x, (scopeAt T' x).isSome = true ↔ x = s ∨ (scopeAt T x).isSome = true) := ⟨_, fA.1, hmsA, fA.2, hex _ _ _⟩
  have FB : Hid (∃ T', AMir wB B pb sm ds cs T' [] n ∧ MapIs wB 9 sm (N + 1) (siteOf T') ∧ Kept B w wB ∧ ∀ x, (scopeAt T' x).isSome = true ↔ x = s ∨ (scopeAt T x).isSome = true) := ⟨_, fB.1, hmsB, fB.2, hex _ _ _⟩
  have qA : wA.cell? ⟨pb, 0, none⟩ = some (.map (some sm)) := by
    obtain ⟨_, _, _, _, _, _, hb⟩ := fA.1.blk
    exact (free_of_row hb rfl).cell
  have qB : wB.cell? ⟨pb, 0, none⟩ = some (.map (some sm)) := by
    obtain ⟨_, _, _, _, _, _, hb⟩ := fB.1.blk
    exact (free_of_row hb rfl).cell
  clear fA fB hex hsitesA hsitesB hmsA hmsB hgA hgB hzA hzB hblk hsites h hs hsz
  go_enter Try.func30, Try.ntmps30
  go_wp2_with fail
  go_region_held3 (fun w' => w'.cell? ⟨pb, 0, none⟩ = some (.map (some sm))) (first | exact cell_d k0 | exact cell_d (cell_a k0) | exact cell_d (cell_a (cell_a (cell_a (cell_a k0)))) | exact cell_d (cell_a (cell_a (cell_a (cell_a (cell_a k0))))) | exact cell_d (cell_a (cell_a (cell_a (cell_a (cell_a (cell_a k0)))))) | exact qA | exact qB)
    ((go_at_call 28; refine (newBlockList_any _).mono ?_; rintro e w' ⟨rfl, rfl⟩))
  · go_end0
    exact ⟨rfl, FA.out⟩
  · go_end0
    exact ⟨rfl, FB.out⟩

/-- The mirror with the first k sites. -/
structure MSt (w wr : World) (pb sm ds cs : Nat) (T : List Sc) (ss : List ByteArray) (k : Nat) : Prop where
  mir : AMir wr w.heap.size pb sm ds cs T [] 0
  sites : ∃ N, N ≤ k ∧ MapIs wr 9 sm N (siteOf T)
  kept : Kept w.heap.size w wr
  scopes : ∀ s, (scopeAt T s).isSome = true ↔ siteIn (ss.take k) s

theorem MSt.next {w wr w' : World} {pb sm ds cs : Nat} {T T' : List Sc} {ss : List ByteArray} {k N : Nat} (h : MSt w wr pb sm ds cs T ss k) (hk : k < ss.length) (hN : N ≤ k) (hA : AMir w' w.heap.size pb sm ds cs T' [] 0) (hm : MapIs w' 9 sm (N + 1) (siteOf T')) (hK : Kept w.heap.size wr w')
    (hx : ∀ x, (scopeAt T' x).isSome = true ↔ x = ss.getD k ByteArray.empty ∨ (scopeAt T x).isSome = true) : MSt w w' pb sm ds cs T' ss (k + 1) := by
  refine ⟨hA, ⟨N + 1, by omega, hm⟩, h.kept.trans hK, fun s => ?_⟩
  rw [hx s, h.scopes s]
  unfold siteIn
  rw [List.take_succ_eq_append_getElem hk, List.getD_eq_getElem?_getD, List.getElem?_eq_getElem hk]
  simp only [Option.getD_some, List.mem_append, List.mem_singleton]
  constructor
  · rintro (h | h | h)
    · exact .inr (.inr h)
    · exact .inl h
    · exact .inr (.inl h)
  · rintro (h | h | h)
    · exact .inr (.inl h)
    · exact .inr (.inr h)
    · exact .inl h

theorem MSt.skip {w wr : World} {pb sm ds cs : Nat} {T : List Sc} {ss : List ByteArray} {k : Nat} (h : MSt w wr pb sm ds cs T ss k) (hk : k < ss.length) (he : ss.getD k ByteArray.empty = ByteArray.empty) : MSt w wr pb sm ds cs T ss (k + 1) := by
  obtain ⟨N, hN, hm⟩ := h.sites
  refine ⟨h.mir, ⟨N, by omega, hm⟩, h.kept, fun s => ?_⟩
  rw [h.scopes s]
  unfold siteIn
  rw [List.getD_eq_getElem?_getD, List.getElem?_eq_getElem hk] at he
  simp only [Option.getD_some] at he
  rw [List.take_succ_eq_append_getElem hk, he]
  simp only [List.mem_append, List.mem_singleton]
  constructor
  · rintro (h | h)
    · exact .inl h
    · exact .inr (.inl h)
  · rintro (h | h | h)
    · exact .inl h
    · exact .inr h
    · exact .inl h

set_option maxHeartbeats 1000000 in
theorem mirror_any {w : World} {a : Option Addr} {len cap b off : Nat} {ss : List ByteArray} (H : IsStrs w a len cap b off ss) (hl : len ≤ 4096) :
    Calls Try.prog 18 #[.slice a len cap] w fun e w' => ∃ pb sm ds cs T, e = .returned (.pointer (some ⟨pb, 0, none⟩)) ∧ AMir w' w.heap.size pb sm ds cs T [] 0 ∧ Kept w.heap.size w w' ∧ ∀ s, (scopeAt T s).isSome = true ↔ siteIn ss s := by
  have HH : Hid (IsStrs w a len cap b off ss) := H
  have hlen : Hid (ss.length = len) := H.length
  clear H
  go_enter Try.func18, Try.ntmps18
  go_wp2_with fail
  refine (newMirror_a w (Nat.le_refl _)).mono ?_
  rintro e w1 ⟨pb, sm, ds, cs, T, rfl, hA, hm, hK, hT⟩
  have HS : Hid (MSt w w1 pb sm ds cs T ss 0) := ⟨hA, ⟨0, Nat.le_refl _, hm⟩, hK, fun s => by rw [hT s]; simp [siteIn]⟩
  clear hA hm hK hT
  go_wp2_with fail
  go_loopw [4] (fun i wr => ∃ k : Nat, k ≤ len ∧ i = .int .i64 k ∧ ∃ T, Hid (MSt w wr pb sm ds cs T ss k)) (fun i _ => len - (intOf i).toNat)
  case atStart => exact ⟨0, Nat.zero_le _, rfl, T, HS⟩
  case round =>
    obtain ⟨k, hk, rfl, T, HR⟩ := hrel
    by_cases hlt : k < len
    · have hix := HH.out.ix k hlt
      have hc := (HH.out.below (HR.out.kept.below (Nat.le_refl _)) (Nat.le_refl _)).cell k hlt
      have hz : (ss.getD k ByteArray.empty).size ≤ maxLen := HH.out.small k
      by_cases he : ss.getD k ByteArray.empty = ByteArray.empty
      · have t := isEmpty_toList he
        have HR2 : Hid (MSt w wr pb sm ds cs T ss (k + 1)) := HR.out.skip (by have := hlen.out; omega) he
        clear he
        generalize ss.getD k ByteArray.empty = x at *
        go_wp2_with fail
        go_roundw
        case rel => exact ⟨k + 1, by omega, by go_num, T, HR2⟩
        case measure => simp [intOf]; omega
      · have t := not_isEmpty_toList he
        obtain ⟨N, hN, hm⟩ := HR.out.sites
        have hcall := addSite_any HR.out.mir (by omega) hm he hz
        have HX : Hid (∀ w' T', AMir w' w.heap.size pb sm ds cs T' [] 0 → MapIs w' 9 sm (N + 1) (siteOf T') → Kept w.heap.size wr w' → (∀ x, (scopeAt T' x).isSome = true ↔ x = ss.getD k ByteArray.empty ∨ (scopeAt T x).isSome = true) → MSt w w' pb sm ds cs T' ss (k + 1)) := fun w' T' h1 h2 h3 h4 => HR.out.next (by have := hlen.out; omega) hN h1 h2 h3 h4
        have HE : Hid (ss.getD k ByteArray.empty ≠ ByteArray.empty) := he
        have HMs : Hid (MapIs wr 9 sm N (siteOf T)) := hm
        clear he hm hcall
        generalize ss.getD k ByteArray.empty = x at *
        go_wp2_with fail
        refine (addSite_any HR.out.mir (by omega) HMs.out HE.out hz).mono ?_
        rintro e w' ⟨rfl, T', h1, h2, h3, h4⟩
        have HS2 : Hid (MSt w w' pb sm ds cs T' ss (k + 1)) := HX.out w' T' h1 h2 h3 h4
        clear h1 h2 h3 h4 HX
        go_wp2_with fail
        go_roundw
        case rel => exact ⟨k + 1, by omega, by go_num, T', HS2⟩
        case measure => simp [intOf]; omega
    · obtain rfl : k = len := by omega
      go_wp2_with fail
      go_ret
      refine ⟨pb, sm, ds, cs, T, rfl, HR.out.mir, HR.out.kept, fun s => ?_⟩
      rw [HR.out.scopes s, List.take_of_length_le (by have := hlen.out; omega)]
end Go.Proofs.Qxb6000541a
