import Derived.Test.Qxb6000541aBase
import Derived.Test.Qxb6000541aBlk
import Derived.WideKeyEntry
namespace Go.Proofs.Qxb6000541a
open Go.RowKit Go.Maps

theorem klaw39 : WideMaps.KeyLaw Try.prog 39 := deep_law_laid laidOut (m := 3) (by omega) row39 (by kernel_rfl) wide39

/-- Behind the taking of an entry the map reads, at that key, as it did (the zero value where there was none). -/
theorem MapIs.taken {w w1 : World} {b n : Nat} {f : Value → Option Value} (h : MapIs w 39 b n f) {t e : TypeId} (ht : Try.prog.underlying t = some (.map 39 e)) {z : Value} (hz : ∀ w : World, (zeroValue e).run Try.prog w = .ok z w) (hn : n < maxLen)
    {key : Value} (hkey : IsKeyOf 39 key) {r : Value} (hrun : (Instr.mapEntry t (.map (some b)) key).run Try.prog w = .ok r w1) :
    (Instr.lookup t (.map (some b)) key false).run Try.prog w1 = .ok ((f key).getD z) w1 := by
  classical
  have hl := h.look law39 ht (hz w) hkey
  have hst := h.store law39 ht hn hkey z (f' := fun x => if x = key then some z else f x) (by simp) (fun x _ hx => by simp [hx])
  have hself := h
  obtain ⟨D, ⟨es, clock, hb, F, hs, hD⟩, h2⟩ := h
  have hkey' := hkey
  obtain ⟨kl, hkl⟩ := hkey
  rcases law39.find w hkl es.toList F.keys with ⟨h1, _⟩ | ⟨j, e0, h1, he, h3⟩
  · obtain ⟨w0, hrun0, hm0, _, _⟩ := hst
    have e1 : (Instr.mapEntry t (.map (some b)) key).run Try.prog w = .ok (.tuple #[z, goInt clock]) { w with heap := w.heap.setIfInBounds b (.map (es.push { key, val := z, born := clock }) (clock + 1)) } := by
      simp [Instr.mapEntry, run_underlying ht, MapKept.run_getObj_map hb, law39.check w false hkl, h1, hz, MapKept.run_setObj_map _ hb, Result.andThen]
    have e2 : (Instr.mapUpdate t (.map (some b)) key z).run Try.prog w = .ok () { w with heap := w.heap.setIfInBounds b (.map (es.push { key, val := z, born := clock }) (clock + 1)) } := by
      simp [Instr.mapUpdate, run_underlying ht, MapKept.run_getObj_map hb, law39.check w false hkl, h1, MapKept.run_setObj_map _ hb, Result.andThen]
    have e3 : (Instr.lookup t (.map (some b)) key false).run Try.prog w = .ok z w := by
      simp [Instr.lookup, run_underlying ht, MapKept.run_getObj_map hb, law39.check w _ hkl, h1, hz, Result.andThen]
    rw [e1] at hrun
    rw [e2] at hrun0
    rw [e3] at hl
    simp only [Result.ok.injEq, true_and, and_true] at hrun hrun0 hl
    rw [← hl, ← hrun.2, hrun0]
    have := hm0.look law39 ht (hz w0) hkey'
    simpa using this
  · have hj : es[j]? = some e0 := by simpa using he
    have hsame : es.modify j (fun e => { e with key := key }) = es := by
      refine Array.ext (by simp) (fun i _ hi => ?_)
      rw [Array.getElem_modify]
      split
      · rename_i e; subst e
        have : es[j] = e0 := by simpa [Array.getElem?_eq_getElem hi] using hj
        rw [this, ← h3]
      · rfl
    have e1 : (Instr.mapEntry t (.map (some b)) key).run Try.prog w = .ok (.tuple #[e0.val, goInt e0.born]) { w with heap := w.heap.setIfInBounds b (.map es clock) } := by
      simp [Instr.mapEntry, run_underlying ht, MapKept.run_getObj_map hb, law39.check w false hkl, h1, hj, h3, law39.stays w hkl, hsame, MapKept.run_setObj_map _ hb, Result.andThen]
    rw [e1] at hrun
    simp only [Result.ok.injEq] at hrun
    have hb1 : w1.heap[b]? = w.heap[b]? := by
      rw [← hrun.2, hb]
      show (w.heap.setIfInBounds b _)[b]? = _
      simp [lt_of_heap hb]
    exact (hself.of_block hb1).look law39 ht (hz w1) hkey'

/-- 'm[k]++' at a key that is a struct: the entry is taken, then written. -/
theorem MapIs.entry {w : World} {b n : Nat} {f : Value → Option Value} (h : MapIs w 39 b n f) {t e : TypeId} (ht : Try.prog.underlying t = some (.map 39 e)) {z : Value} (hz : ∀ w : World, (zeroValue e).run Try.prog w = .ok z w) (hn : n < maxLen)
    {key : Value} (hkey : IsKeyOf 39 key) (v : Value) {f' : Value → Option Value} (hsame : f' key = some v) (hother : ∀ x, IsKeyOf 39 x → x ≠ key → f' x = f x) :
    ∃ v0 st w1, (Instr.mapEntry t (.map (some b)) key).run Try.prog w = .ok (.tuple #[v0, goInt st]) w1 ∧ w.grownBy w1 (some b) ∧ w1.heap.size = w.heap.size ∧ (∃ es ck, w1.heap[b]? = some (.map es ck)) ∧
      ∀ w2 : World, w2.heap[b]? = w1.heap[b]? → ∃ w3, (Instr.entryStore t (.map (some b)) (goInt st) v).run Try.prog w2 = .ok () w3 ∧ MapIs w3 39 b (n + 1) f' ∧ w2.grownBy w3 (some b) ∧ w3.heap.size = w2.heap.size := by
  obtain ⟨w0, hrun0, hm0, _, _⟩ := h.store law39 ht hn hkey v hsame hother
  obtain ⟨D, ⟨es, clock, hb, F, hs, hD⟩, h2⟩ := h
  obtain ⟨kl, hkl⟩ := hkey
  obtain ⟨v0, st, es1, clock1, hrun, _, hst⟩ := WideElems.entry_then_store klaw39 ht hz hb F hkl
  refine ⟨v0, st, _, hrun, ⟨rfl, rfl, rfl, by simp [ChangeMaps.setBlock], fun k _ hk => ChangeMaps.heap_setBlock_other hb _ (fun e => hk (by rw [e]))⟩, by simp [ChangeMaps.setBlock], ⟨_, _, ChangeMaps.heap_setBlock_same hb _⟩, fun w2 hw2 => ?_⟩
  rw [ChangeMaps.heap_setBlock_same hb _] at hw2
  obtain ⟨es', clock', hes, hupd⟩ := hst w2 v hw2
  rw [hrun0] at hupd
  simp only [Result.ok.injEq, true_and] at hupd
  refine ⟨_, hes, ?_, ⟨rfl, rfl, rfl, by simp [ChangeMaps.setBlock], fun k _ hk => ChangeMaps.heap_setBlock_other hw2 _ (fun e => hk (by rw [e]))⟩, by simp [ChangeMaps.setBlock]⟩
  refine hm0.of_block ?_
  rw [ChangeMaps.heap_setBlock_same hw2, hupd, ChangeMaps.heap_setBlock_same hb]

/-- The maps of the table. -/
def mapsOf (T : List Sc) : List Nat := T.flatMap fun c => [c.dm, c.cm]

/-- What one scope owns. -/
structure ScOk (w : World) (B pb : Nat) (L : List (ByteArray × (ByteArray ⊕ (Int × ByteArray)))) (n : Nat) (c : Sc) : Prop where
  top : c.name = ByteArray.empty → c.lb = pb ∧ c.lo = 4
  site : c.name ≠ ByteArray.empty → c.lo = 3
  low : B ≤ c.lb
  lowD : B ≤ c.dm
  lowC : B ≤ c.cm
  cell0 : w.cell? ⟨c.lb, c.lo, none⟩ = some (.map (some c.dm))
  cell1 : w.cell? ⟨c.lb, c.lo + 1, none⟩ = some (.map (some c.cm))
  dom : MapIs w 9 c.dm n (domOf L c.name)
  cat : MapIs w 39 c.cm n (catOf L c.name)
  tag : ∃ x e z, w.heap[c.lb]? = some (.cells x e z) ∧ (e = 60 ∨ e = 81)

theorem tag_of {w w' : World} {b : Nat} (h : ∃ x e z, w.heap[b]? = some (.cells x e z) ∧ (e = 60 ∨ e = 81)) (hb : w'.heap[b]? = w.heap[b]?) : ∃ x e z, w'.heap[b]? = some (.cells x e z) ∧ (e = 60 ∨ e = 81) := by
  obtain ⟨x, e, z, h1, h2⟩ := h
  exact ⟨x, e, z, hb.trans h1, h2⟩

/-- The mirror at block pb: scopes T, blocks L. -/
structure AMir (w : World) (B pb sm ds cs : Nat) (T : List Sc) (L : List (ByteArray × (ByteArray ⊕ (Int × ByteArray)))) (n : Nat) : Prop where
  lowP : B ≤ pb
  lowS : B ≤ sm
  lowD : B ≤ ds
  lowC : B ≤ cs
  nodup : (mapsOf T ++ [sm, ds, cs]).Nodup
  names : (T.map Sc.name).Nodup
  blk : ∃ c1 cv c3 bd bc c6, w.heap[pb]? = some (.cells #[.map (some sm), c1, cv, c3, bd, bc, c6, .map (some ds), .map (some cs)] 60 (0, 0))
  scopes : ∀ c ∈ T, ScOk w B pb L n c
  home : (scopeAt T ByteArray.empty).isSome = true
  sites : ∃ N, N ≤ 5000 ∧ MapIs w 9 sm N (siteOf T)
  dsc : MapIs w 9 ds n (dcnt L)
  csc : MapIs w 39 cs n (ccnt L)

theorem ScOk.of_blocks {w w' : World} {B pb n : Nat} {L : List (ByteArray × (ByteArray ⊕ (Int × ByteArray)))} {c : Sc} (h : ScOk w B pb L n c) (h1 : w'.heap[c.lb]? = w.heap[c.lb]?) (h2 : w'.heap[c.dm]? = w.heap[c.dm]?) (h3 : w'.heap[c.cm]? = w.heap[c.cm]?) : ScOk w' B pb L n c :=
  ⟨h.top, h.site, h.low, h.lowD, h.lowC, (World.cell?_of_block h1).trans h.cell0, (World.cell?_of_block h1).trans h.cell1, h.dom.of_block h2, h.cat.of_block h3, tag_of h.tag h1⟩

/-- The blocks that the mirror reads, unchanged: the mirror unchanged. -/
theorem AMir.of_blocks {w w' : World} {B pb sm ds cs n : Nat} {T : List Sc} {L : List (ByteArray × (ByteArray ⊕ (Int × ByteArray)))} (h : AMir w B pb sm ds cs T L n) (hb : ∀ k, k < w.heap.size → B ≤ k → w'.heap[k]? = w.heap[k]?) : AMir w' B pb sm ds cs T L n := by
  obtain ⟨lp, ls, ld, lc, hnd, hnm, ⟨c1, cv, c3, bd, bc, c6, hblk⟩, hsc, hhome, ⟨N, hN, hsites⟩, hds, hcs⟩ := h
  refine ⟨lp, ls, ld, lc, hnd, hnm, ⟨c1, cv, c3, bd, bc, c6, (hb pb (lt_of_heap hblk) lp).trans hblk⟩, fun c hc => ?_, hhome, ⟨N, hN, hsites.of_block (hb sm hsites.lt ls)⟩, hds.of_block (hb ds hds.lt ld), hcs.of_block (hb cs hcs.lt lc)⟩
  have hk := hsc c hc
  exact hk.of_blocks (hb c.lb (lt_of_cell hk.cell0) hk.low) (hb c.dm hk.dom.lt hk.lowD) (hb c.cm hk.cat.lt hk.lowC)

theorem AMir.alloc {w : World} {B pb sm ds cs n : Nat} {T : List Sc} {L : List (ByteArray × (ByteArray ⊕ (Int × ByteArray)))} (h : AMir w B pb sm ds cs T L n) (o : Obj) : AMir (w.alloc o) B pb sm ds cs T L n :=
  h.of_blocks fun k hk _ => Below.heap_alloc w o k hk
theorem AMir.drew {w : World} {B pb sm ds cs n : Nat} {T : List Sc} {L : List (ByteArray × (ByteArray ⊕ (Int × ByteArray)))} (h : AMir w B pb sm ds cs T L n) : AMir w.drew B pb sm ds cs T L n :=
  h.of_blocks fun _ _ _ => rfl
theorem AMir.drewN {w : World} {B pb sm ds cs n : Nat} {T : List Sc} {L : List (ByteArray × (ByteArray ⊕ (Int × ByteArray)))} (h : AMir w B pb sm ds cs T L n) (m : Nat) : AMir (w.drewN m) B pb sm ds cs T L n :=
  h.of_blocks fun _ _ _ => rfl

theorem mem_mapsOf {T : List Sc} {c : Sc} (hc : c ∈ T) : c.dm ∈ mapsOf T ∧ c.cm ∈ mapsOf T :=
  ⟨List.mem_flatMap.2 ⟨c, hc, by simp⟩, List.mem_flatMap.2 ⟨c, hc, by simp⟩⟩

/-- Two scopes of the table share no map. -/
theorem maps_apart : ∀ {T : List Sc}, (mapsOf T).Nodup → ∀ {c c' : Sc}, c ∈ T → c' ∈ T → c.name ≠ c'.name → c.dm ≠ c'.dm ∧ c.cm ≠ c'.cm ∧ c.dm ≠ c'.cm
  | [], _, _, _, hc, _, _ => by simp at hc
  | x :: r, hnd, c, c', hc, hc', hne => by
    have e : mapsOf (x :: r) = [x.dm, x.cm] ++ mapsOf r := rfl
    rw [e] at hnd
    obtain ⟨_, h2, h3⟩ := List.nodup_append.1 hnd
    rcases List.mem_cons.1 hc with hc1 | hc1
    · subst hc1
      rcases List.mem_cons.1 hc' with hc2 | hc2
      · exact absurd (by rw [hc2]) hne
      · have := mem_mapsOf hc2
        exact ⟨h3 _ (by simp) _ this.1, h3 _ (by simp) _ this.2, h3 _ (by simp) _ this.2⟩
    · rcases List.mem_cons.1 hc' with hc2 | hc2
      · subst hc2
        have := mem_mapsOf hc1
        exact ⟨(h3 _ (by simp) _ this.1).symm, (h3 _ (by simp) _ this.2).symm, (h3 _ (by simp) _ this.1).symm⟩
      · exact maps_apart h2 hc1 hc2 hne
theorem maps_own : ∀ {T : List Sc}, (mapsOf T).Nodup → ∀ {c : Sc}, c ∈ T → c.dm ≠ c.cm
  | [], _, _, hc => by simp at hc
  | x :: r, hnd, c, hc => by
    have e : mapsOf (x :: r) = [x.dm, x.cm] ++ mapsOf r := rfl
    rw [e] at hnd
    obtain ⟨h1, h2, _⟩ := List.nodup_append.1 hnd
    rcases List.mem_cons.1 hc with hc1 | hc1
    · subst hc1; simpa using h1
    · exact maps_own h2 hc1

theorem nodup_parts {T : List Sc} {sm ds cs : Nat} (h : (mapsOf T ++ [sm, ds, cs]).Nodup) : (mapsOf T).Nodup ∧ (∀ x ∈ mapsOf T, x ≠ sm ∧ x ≠ ds ∧ x ≠ cs) ∧ sm ≠ ds ∧ sm ≠ cs ∧ ds ≠ cs := by
  obtain ⟨h1, h2, h3⟩ := List.nodup_append.1 h
  refine ⟨h1, fun x hx => ⟨h3 x hx sm (by simp), h3 x hx ds (by simp), h3 x hx cs (by simp)⟩, ?_⟩
  simp at h2
  exact ⟨h2.1.1, h2.1.2, h2.2⟩

theorem sc_unique : ∀ {l : List Sc}, l.Pairwise (fun a b => a.name ≠ b.name) → ∀ {a b : Sc}, a ∈ l → b ∈ l → a.name = b.name → a = b := by
  intro l
  induction l with
  | nil => intro _ a b ha; simp at ha
  | cons x r ih =>
    intro hl a b ha hb hab
    obtain ⟨hx, hr⟩ := List.pairwise_cons.1 hl
    rcases List.mem_cons.1 ha with ha | ha
    · rcases List.mem_cons.1 hb with hb | hb
      · rw [ha, hb]
      · exact absurd (ha ▸ hab) (hx b hb)
    · rcases List.mem_cons.1 hb with hb | hb
      · exact absurd (hb ▸ hab).symm (hx a ha)
      · exact ih hr ha hb hab

/-- One more domain at scope c: the mirror behind both stores. -/
theorem AMir.moreDom {w w3 : World} {B pb sm ds cs n : Nat} {T : List Sc} {L : List (ByteArray × (ByteArray ⊕ (Int × ByteArray)))} (h : AMir w B pb sm ds cs T L n) {c : Sc} (hc : c ∈ T) {d : ByteArray}
    (h1 : MapIs w3 9 c.dm (n + 1) (domOf (L ++ [(c.name, .inl d)]) c.name)) (h2 : MapIs w3 9 ds (n + 1) (dcnt (L ++ [(c.name, .inl d)])))
    (hb : ∀ k, k < w.heap.size → k ≠ c.dm → k ≠ ds → w3.heap[k]? = w.heap[k]?) : AMir w3 B pb sm ds cs T (L ++ [(c.name, .inl d)]) (n + 1) := by
  obtain ⟨lp, ls, ld, lc, hnd, hnm, ⟨c1, cv, c3, bd, bc, c6, hblk⟩, hsc, hhome, ⟨N, hN, hsites⟩, hds, hcs⟩ := h
  obtain ⟨n1, n2, n3, n4, n5⟩ := nodup_parts hnd
  have mc := mem_mapsOf hc
  have ne1 := n2 _ mc.1
  have kc := hsc c hc
  have cells_ne : ∀ {k : Nat} {x : Array Value} {e : TypeId} {z : Nat × Nat}, w.heap[k]? = some (.cells x e z) → k ≠ c.dm ∧ k ≠ ds := fun hk => ⟨kc.dom.ne hk, hds.ne hk⟩
  have cell_blk : ∀ {a : Addr} {v : Value}, w.cell? a = some v → w3.heap[a.block]? = w.heap[a.block]? := fun {a v} ha => by
    have hlt := lt_of_cell ha
    cases hk : w.heap[a.block]? with
    | none => simp [World.cell?, hk] at ha
    | some o =>
      cases o <;> simp [World.cell?, hk] at ha
      have := cells_ne hk
      rw [hb a.block hlt this.1 this.2, hk]
  refine ⟨lp, ls, ld, lc, hnd, hnm, ⟨c1, cv, c3, bd, bc, c6, (hb pb (lt_of_heap hblk) (cells_ne hblk).1 (cells_ne hblk).2).trans hblk⟩, fun c' hc' => ?_, hhome, ⟨N, hN, hsites.of_block (hb sm hsites.lt (Ne.symm ne1.1) n3)⟩, h2, ?_⟩
  · have k' := hsc c' hc'
    have mc' := mem_mapsOf hc'
    have ne1' := n2 _ mc'.1
    have ne2' := n2 _ mc'.2
    by_cases he : c'.name = c.name
    · have hcc : c' = c :=
        sc_unique (List.pairwise_map.1 (show (T.map Sc.name).Pairwise (· ≠ ·) from hnm)) hc' hc he
      subst hcc
      refine ⟨k'.top, k'.site, k'.low, k'.lowD, k'.lowC, (World.cell?_of_block (cell_blk k'.cell0)).trans k'.cell0, (World.cell?_of_block (cell_blk k'.cell1)).trans k'.cell1, h1, ?_, tag_of k'.tag (cell_blk k'.cell0)⟩
      rw [catOf_dom]
      exact (k'.cat.of_block (hb c'.cm k'.cat.lt (Ne.symm (maps_own n1 hc)) ne2'.2.1)).mono (Nat.le_succ n)
    · have ap := maps_apart n1 hc' hc he
      have ap2 := maps_apart n1 hc hc' (Ne.symm he)
      refine ⟨k'.top, k'.site, k'.low, k'.lowD, k'.lowC, (World.cell?_of_block (cell_blk k'.cell0)).trans k'.cell0, (World.cell?_of_block (cell_blk k'.cell1)).trans k'.cell1, ?_, ?_, tag_of k'.tag (cell_blk k'.cell0)⟩
      · rw [domOf_scope (Ne.symm he)]
        exact (k'.dom.of_block (hb c'.dm k'.dom.lt ap.1 ne1'.2.1)).mono (Nat.le_succ n)
      · rw [catOf_dom]
        exact (k'.cat.of_block (hb c'.cm k'.cat.lt (Ne.symm ap2.2.2) ne2'.2.1)).mono (Nat.le_succ n)
  · rw [ccnt_dom]
    exact (hcs.of_block (hb cs hcs.lt (Ne.symm ne1.2.2) (Ne.symm n5))).mono (Nat.le_succ n)

/-- One more category at scope c: the mirror behind both stores. -/
theorem AMir.moreCat {w w3 : World} {B pb sm ds cs n : Nat} {T : List Sc} {L : List (ByteArray × (ByteArray ⊕ (Int × ByteArray)))} (h : AMir w B pb sm ds cs T L n) {c : Sc} (hc : c ∈ T) {q : Int × ByteArray}
    (h1 : MapIs w3 39 c.cm (n + 1) (catOf (L ++ [(c.name, .inr q)]) c.name)) (h2 : MapIs w3 39 cs (n + 1) (ccnt (L ++ [(c.name, .inr q)])))
    (hb : ∀ k, k < w.heap.size → k ≠ c.cm → k ≠ cs → w3.heap[k]? = w.heap[k]?) : AMir w3 B pb sm ds cs T (L ++ [(c.name, .inr q)]) (n + 1) := by
  obtain ⟨lp, ls, ld, lc, hnd, hnm, ⟨c1, cv, c3, bd, bc, c6, hblk⟩, hsc, hhome, ⟨N, hN, hsites⟩, hds, hcs⟩ := h
  obtain ⟨n1, n2, n3, n4, n5⟩ := nodup_parts hnd
  have mc := mem_mapsOf hc
  have ne1 := n2 _ mc.2
  have kc := hsc c hc
  have cells_ne : ∀ {k : Nat} {x : Array Value} {e : TypeId} {z : Nat × Nat}, w.heap[k]? = some (.cells x e z) → k ≠ c.cm ∧ k ≠ cs := fun hk => ⟨kc.cat.ne hk, hcs.ne hk⟩
  have cell_blk : ∀ {a : Addr} {v : Value}, w.cell? a = some v → w3.heap[a.block]? = w.heap[a.block]? := fun {a v} ha => by
    have hlt := lt_of_cell ha
    cases hk : w.heap[a.block]? with
    | none => simp [World.cell?, hk] at ha
    | some o =>
      cases o <;> simp [World.cell?, hk] at ha
      have := cells_ne hk
      rw [hb a.block hlt this.1 this.2, hk]
  refine ⟨lp, ls, ld, lc, hnd, hnm, ⟨c1, cv, c3, bd, bc, c6, (hb pb (lt_of_heap hblk) (cells_ne hblk).1 (cells_ne hblk).2).trans hblk⟩, fun c' hc' => ?_, hhome, ⟨N, hN, hsites.of_block (hb sm hsites.lt (Ne.symm ne1.1) n4)⟩, ?_, h2⟩
  · have k' := hsc c' hc'
    have mc' := mem_mapsOf hc'
    have ne1' := n2 _ mc'.1
    have ne2' := n2 _ mc'.2
    by_cases he : c'.name = c.name
    · have hcc : c' = c :=
        sc_unique (List.pairwise_map.1 (show (T.map Sc.name).Pairwise (· ≠ ·) from hnm)) hc' hc he
      subst hcc
      refine ⟨k'.top, k'.site, k'.low, k'.lowD, k'.lowC, (World.cell?_of_block (cell_blk k'.cell0)).trans k'.cell0, (World.cell?_of_block (cell_blk k'.cell1)).trans k'.cell1, ?_, h1, tag_of k'.tag (cell_blk k'.cell0)⟩
      rw [domOf_cat]
      exact (k'.dom.of_block (hb c'.dm k'.dom.lt (maps_own n1 hc) ne1'.2.2)).mono (Nat.le_succ n)
    · have ap := maps_apart n1 hc' hc he
      refine ⟨k'.top, k'.site, k'.low, k'.lowD, k'.lowC, (World.cell?_of_block (cell_blk k'.cell0)).trans k'.cell0, (World.cell?_of_block (cell_blk k'.cell1)).trans k'.cell1, ?_, ?_, tag_of k'.tag (cell_blk k'.cell0)⟩
      · rw [domOf_cat]
        exact (k'.dom.of_block (hb c'.dm k'.dom.lt ap.2.2 ne1'.2.2)).mono (Nat.le_succ n)
      · rw [catOf_scope (Ne.symm he)]
        exact (k'.cat.of_block (hb c'.cm k'.cat.lt ap.2.1 ne2'.2.2)).mono (Nat.le_succ n)
  · rw [dcnt_cat]
    exact (hds.of_block (hb ds hds.lt (Ne.symm ne1.2.1) n5)).mono (Nat.le_succ n)

theorem zero4 (w : World) : (zeroValue 4).run Try.prog w = .ok (.bool false) w := by kernel_rfl
theorem zero3 (w : World) : (zeroValue 3).run Try.prog w = .ok (.int .i64 0) w := by kernel_rfl

theorem AMir.lookDom {W : World} {B pb sm ds cs n : Nat} {T : List Sc} {L : List (ByteArray × (ByteArray ⊕ (Int × ByteArray)))} (h : AMir W B pb sm ds cs T L n) {c : Sc} (hc : c ∈ T) {d : ByteArray} (hd : d.size ≤ maxLen) :
    (Instr.lookup 50 (.map (some c.dm)) (.string d) false).run Try.prog W = .ok (.bool (hasL L c.name (.inl d))) W := by
  rw [(h.scopes c hc).dom.look law9 Try.underlying50 (zero4 _) (key9 hd), domOf_getD]
theorem AMir.lookCat {W : World} {B pb sm ds cs n : Nat} {T : List Sc} {L : List (ByteArray × (ByteArray ⊕ (Int × ByteArray)))} (h : AMir W B pb sm ds cs T L n) {c : Sc} (hc : c ∈ T) {tx : Int} {co : ByteArray} (ht : (Lit.int .i64 tx).wf = true) (hd : co.size ≤ maxLen) :
    (Instr.lookup 51 (.map (some c.cm)) (.agg #[.int .i64 tx, .string co]) false).run Try.prog W = .ok (.bool (hasL L c.name (.inr (tx, co)))) W := by
  rw [(h.scopes c hc).cat.look law39 Try.underlying51 (zero4 _) (key39 ht hd), catOf_getD]
theorem AMir.lookDs {W : World} {B pb sm ds cs n : Nat} {T : List Sc} {L : List (ByteArray × (ByteArray ⊕ (Int × ByteArray)))} (h : AMir W B pb sm ds cs T L n) {d : ByteArray} (hd : d.size ≤ maxLen) :
    (Instr.lookup 56 (.map (some ds)) (.string d) false).run Try.prog W = .ok (.int .i64 (cntL L (.inl d))) W := by
  rw [h.dsc.look law9 Try.underlying56 (zero3 _) (key9 hd), dcnt_getD]
theorem AMir.lookCs {W : World} {B pb sm ds cs n : Nat} {T : List Sc} {L : List (ByteArray × (ByteArray ⊕ (Int × ByteArray)))} (h : AMir W B pb sm ds cs T L n) {tx : Int} {co : ByteArray} (ht : (Lit.int .i64 tx).wf = true) (hd : co.size ≤ maxLen) :
    (Instr.lookup 57 (.map (some cs)) (.agg #[.int .i64 tx, .string co]) false).run Try.prog W = .ok (.int .i64 (cntL L (.inr (tx, co)))) W := by
  rw [h.csc.look law39 Try.underlying57 (zero3 _) (key39 ht hd), ccnt_getD]

theorem cells_kept {w w' : World} {b : Nat} (hg : w.grownBy w' (some b)) {es : Array MapEntry} {ck : Nat} (hb : w.heap[b]? = some (.map es ck)) {k : Nat} {x : Array Value} {e : TypeId} {z : Nat × Nat} (hk : w.heap[k]? = some (.cells x e z)) : w'.heap[k]? = some (.cells x e z) := by
  rw [hg.block k (lt_of_heap hk) (fun e => by cases e; rw [hb] at hk; cases hk), hk]

theorem AMir.domStep {W : World} {B pb sm ds cs n : Nat} {T : List Sc} {L : List (ByteArray × (ByteArray ⊕ (Int × ByteArray)))} (h : AMir W B pb sm ds cs T L n) {c : Sc} (hc : c ∈ T) {d : ByteArray} (hd : d.size ≤ maxLen) (hn : n ≤ 5000) :
    ∃ w2 w3, (Instr.mapUpdate 50 (.map (some c.dm)) (.string d) (.bool true)).run Try.prog W.drew = .ok () w2 ∧
      (Instr.lookup 56 (.map (some ds)) (.string d) false).run Try.prog w2.drew = .ok (.int .i64 (cntL L (.inl d))) w2.drew ∧
      (Instr.mapUpdate 56 (.map (some ds)) (.string d) (.int .i64 ((cntL L (.inl d) : Int) + 1))).run Try.prog w2.drew = .ok () w3 ∧
      AMir w3 B pb sm ds cs T (L ++ [(c.name, .inl d)]) (n + 1) ∧ Kept B W w3 ∧
      (∀ (k : Nat) (x : Array Value) (e : TypeId) (z : Nat × Nat), W.heap[k]? = some (Obj.cells x e z) → w2.heap[k]? = some (Obj.cells x e z) ∧ w3.heap[k]? = some (Obj.cells x e z)) := by
  have kc := h.scopes c hc
  obtain ⟨n1, n2, n3, n4, n5⟩ := nodup_parts h.nodup
  have ne1 := n2 _ (mem_mapsOf hc).1
  obtain ⟨w2, r1, m1, g1, z1⟩ := (kc.dom.of_block (w' := W.drew) rfl).store law9 Try.underlying50 (by unfold maxLen; omega) (key9 hd) (.bool true) (f' := domOf (L ++ [(c.name, .inl d)]) c.name) domOf_same (fun x _ hx => domOf_other hx)
  have ds2 : MapIs w2 9 ds n (dcnt L) := h.dsc.of_block (g1.block ds h.dsc.lt (fun e => ne1.2.1 (by simpa using e.symm)))
  obtain ⟨w3, r2, m2, g2, z2⟩ := (ds2.of_block (w' := w2.drew) rfl).store law9 Try.underlying56 (by unfold maxLen; omega) (key9 hd) (.int .i64 (cntL L (.inl d) + 1 : Nat)) (f' := dcnt (L ++ [(c.name, .inl d)])) dcnt_same (fun x _ hx => dcnt_other hx)
  obtain ⟨e1, k1, b1⟩ := kc.dom.block
  obtain ⟨e2, k2, b2⟩ := ds2.block
  refine ⟨w2, w3, r1, ?_, by simpa using r2, ?_, ?_, fun k x e z hk => ?_⟩
  · rw [(ds2.of_block (w' := w2.drew) rfl).look law9 Try.underlying56 (zero3 _) (key9 hd), dcnt_getD]
  · refine h.moreDom hc (m1.of_block (g2.block c.dm (by rw [show w2.drew.heap.size = W.heap.size from z1]; exact kc.dom.lt) (fun e => ne1.2.1 (by simpa using e)))) m2 (fun k hk hk1 hk2 => ?_)
    rw [g2.block k (by rw [show w2.drew.heap.size = W.heap.size from z1]; exact hk) (fun e => hk2 (by simpa using e))]
    exact g1.block k hk (fun e => hk1 (by simpa using e))
  · exact ((((Kept.refl B W).drew).grown g1 (fun k hk => by cases hk; exact Mine.map kc.lowD b1)).drew).grown g2 (fun k hk => by cases hk; exact Mine.map h.lowD b2)
  · have := cells_kept g1 b1 hk
    exact ⟨this, cells_kept (w := w2.drew) g2 b2 this⟩

/-- The same for a category: the count's entry is taken and written. -/
theorem AMir.catStep {W : World} {B pb sm ds cs n : Nat} {T : List Sc} {L : List (ByteArray × (ByteArray ⊕ (Int × ByteArray)))} (h : AMir W B pb sm ds cs T L n) {c : Sc} (hc : c ∈ T) {tx : Int} {co : ByteArray} (ht : (Lit.int .i64 tx).wf = true) (hd : co.size ≤ maxLen) (hn : n ≤ 5000) :
    ∃ w2 w3 v0 st w4, (Instr.mapUpdate 51 (.map (some c.cm)) (.agg #[.int .i64 tx, .string co]) (.bool true)).run Try.prog W.drew = .ok () w2 ∧
      (Instr.lookup 57 (.map (some cs)) (.agg #[.int .i64 tx, .string co]) false).run Try.prog w2.drew = .ok (.int .i64 (cntL L (.inr (tx, co)))) w2.drew ∧
      (Instr.mapEntry 57 (.map (some cs)) (.agg #[.int .i64 tx, .string co])).run Try.prog w2.drew = .ok (.tuple #[v0, .int .i64 st]) w3 ∧
      (Instr.lookup 57 (.map (some cs)) (.agg #[.int .i64 tx, .string co]) false).run Try.prog w3 = .ok (.int .i64 (cntL L (.inr (tx, co)))) w3 ∧
      (Instr.entryStore 57 (.map (some cs)) (.int .i64 st) (.int .i64 ((cntL L (.inr (tx, co)) : Int) + 1))).run Try.prog w3 = .ok () w4 ∧
      AMir w4 B pb sm ds cs T (L ++ [(c.name, .inr (tx, co))]) (n + 1) ∧ Kept B W w4 ∧
      (∀ (k : Nat) (x : Array Value) (e : TypeId) (z : Nat × Nat), W.heap[k]? = some (Obj.cells x e z) → w2.heap[k]? = some (Obj.cells x e z) ∧ w3.heap[k]? = some (Obj.cells x e z) ∧ w4.heap[k]? = some (Obj.cells x e z)) := by
  have kc := h.scopes c hc
  obtain ⟨n1, n2, n3, n4, n5⟩ := nodup_parts h.nodup
  have ne1 := n2 _ (mem_mapsOf hc).2
  obtain ⟨w2, r1, m1, g1, z1⟩ := (kc.cat.of_block (w' := W.drew) rfl).store law39 Try.underlying51 (by unfold maxLen; omega) (key39 ht hd) (.bool true) (f' := catOf (L ++ [(c.name, .inr (tx, co))]) c.name) catOf_same (fun x _ hx => catOf_other hx)
  have cs2 : MapIs w2 39 cs n (ccnt L) := h.csc.of_block (g1.block cs h.csc.lt (fun e => ne1.2.2 (by simpa using e.symm)))
  obtain ⟨v0, st, w3, r2, g2, z2, ⟨e3, k3, b3⟩, hst⟩ := (cs2.of_block (w' := w2.drew) rfl).entry Try.underlying57 zero3 (by unfold maxLen; omega) (key39 ht hd) (.int .i64 (cntL L (.inr (tx, co)) + 1 : Nat)) (f' := ccnt (L ++ [(c.name, .inr (tx, co))])) ccnt_same (fun x _ hx => ccnt_other hx)
  obtain ⟨w4, r3, m2, g3, z3⟩ := hst w3 rfl
  obtain ⟨e1, k1, b1⟩ := kc.cat.block
  obtain ⟨e2, k2, b2⟩ := cs2.block
  have hz3 : w3.heap.size = W.heap.size := z2.trans z1
  refine ⟨w2, w3, v0, st, w4, r1, ?_, r2, ?_, by simpa [goInt] using r3, ?_, ?_, fun k x e z hk => ?_⟩
  · rw [(cs2.of_block (w' := w2.drew) rfl).look law39 Try.underlying57 (zero3 _) (key39 ht hd), ccnt_getD]
  · rw [(cs2.of_block (w' := w2.drew) rfl).taken Try.underlying57 zero3 (by unfold maxLen; omega) (key39 ht hd) r2, ccnt_getD]
  · refine h.moreCat hc (m1.of_block ((g3.block c.cm (by rw [hz3]; exact kc.cat.lt) (fun e => ne1.2.2 (by simpa using e))).trans (g2.block c.cm (by rw [show w2.drew.heap.size = W.heap.size from z1]; exact kc.cat.lt) (fun e => ne1.2.2 (by simpa using e))))) m2 (fun k hk hk1 hk2 => ?_)
    rw [g3.block k (by rw [hz3]; exact hk) (fun e => hk2 (by simpa using e)), g2.block k (by rw [show w2.drew.heap.size = W.heap.size from z1]; exact hk) (fun e => hk2 (by simpa using e))]
    exact g1.block k hk (fun e => hk1 (by simpa using e))
  · exact (((((Kept.refl B W).drew).grown g1 (fun k hk => by cases hk; exact Mine.map kc.lowC b1)).drew).grown g2 (fun k hk => by cases hk; exact Mine.map h.lowC b2)).grown g3 (fun k hk => by cases hk; exact Mine.map h.lowC b3)
  · have h2 := cells_kept g1 b1 hk
    have h3 := cells_kept (w := w2.drew) g2 b2 h2
    exact ⟨h2, h3, cells_kept g3 b3 h3⟩

end Go.Proofs.Qxb6000541a
