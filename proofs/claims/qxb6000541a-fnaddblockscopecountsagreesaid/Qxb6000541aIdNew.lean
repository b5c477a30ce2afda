import Derived.Test.Qxb6000541aId
namespace Go.Proofs.Qxb6000541a
open Go.RowKit Go.Maps

/-- The mirror between the store into 'ids' and the append: 'ids' has one more. -/
structure Half (w : World) (B pb mi : Nat) (ks : List (ByteArray × ByteArray)) (p : ByteArray × ByteArray) (C : Array Value) (cv : Value) (xs : List Value) : Prop where
  lowP : B ≤ pb
  lowM : B ≤ mi
  ids : MapIs w 30 mi (ks.length + 1) (idsOf (ks ++ [p]))
  blk : w.heap[pb]? = some (.cells C 60 (0, 0))
  row : w.ownsRow B 67 8 cv ks.length xs
  ok : RowOk xs ks

theorem half {W : World} {B pb mi : Nat} {ks : List (ByteArray × ByteArray)} (h : IdMir W B pb mi ks) (hk : ks.length ≤ 5000) {s c : ByteArray} (hs : s.size ≤ maxLen) (hc : c.size ≤ maxLen) (hm : ¬ idxIn ks (s, c) < ks.length) :
    ∃ c0 cv c3 c4 c5 c6 c7 c8 xs w2, W.heap[pb]? = some (.cells #[c0, .map (some mi), cv, c3, c4, c5, c6, c7, c8] 60 (0, 0)) ∧ (∃ ca cc, cv = .slice ca ks.length cc) ∧
      (Instr.mapUpdate 49 (.map (some mi)) (.agg #[.string s, .string c]) (.int .i32 ks.length)).run Try.prog W.drew = .ok () w2 ∧
      Half w2 B pb mi ks (s, c) #[c0, .map (some mi), cv, c3, c4, c5, c6, c7, c8] cv xs ∧ Kept B W w2 ∧ w2.heap.size = W.heap.size ∧ (∀ k, k < W.heap.size → k ≠ mi → w2.heap[k]? = W.heap[k]?) := by
  obtain ⟨lp, lm, hi, c0, cv, c3, c4, c5, c6, c7, c8, xs, hp, hr, ho⟩ := h
  obtain ⟨w2, hrun, hmap, hg, hsz⟩ := (hi.of_block (w' := W.drew) rfl).store law30 Try.underlying49 (by unfold maxLen; omega) (key30 hs hc) (.int .i32 ks.length) (idsOf_snoc_same hm) (fun x _ hx => idsOf_snoc_other hx)
  obtain ⟨es, ck, hmb⟩ := hi.block
  have hne : pb ≠ mi := fun e => by rw [e, hmb] at hp; cases hp
  have hblk : ∀ k, k < W.heap.size → k ≠ mi → w2.heap[k]? = W.heap[k]? := fun k hk hne => hg.block k hk (fun e => hne (by simpa using e))
  refine ⟨c0, cv, c3, c4, c5, c6, c7, c8, xs, w2, hp, ownsRow_form hr, hrun, ⟨lp, lm, hmap, (hblk pb (lt_of_heap hp) hne).trans hp, ownsRow_of_block hr (fun k hk => ?_), ho⟩, ?_, hsz, hblk⟩
  · obtain ⟨_, cur, hk2⟩ := ownsRow_block hr hk
    exact hblk k (lt_of_heap hk2) (fun e => by rw [e, hmb] at hk2; cases hk2)
  · exact (Kept.refl B W).drew.grown hg (fun k hk => by cases hk; exact Mine.map lm hmb)

/-- Behind the append and the store of the new slice. -/
theorem half_done {w2 w3 : World} {B pb mi : Nat} {ks : List (ByteArray × ByteArray)} {s c : ByteArray} {c0 cv c3 c4 c5 c6 c7 c8 : Value} {xs r : List Value}
    (h : Half w2 B pb mi ks (s, c) #[c0, .map (some mi), cv, c3, c4, c5, c6, c7, c8] cv xs) {o1 o2 o3 : Obj} {g cap : Nat}
    (hown : w3.ownsRow B 67 8 (.slice (some ⟨g, 0, none⟩) (ks.length + 1) cap) (ks.length + 1) (xs ++ (.string s :: .string c :: r)))
    (hgrow : ((((w2.alloc o1).alloc o2).alloc o3).drew).grownBy w3 cv.ownBlock) (hat : cv.ownBlock = some g ∨ g = w2.heap.size + 1 + 1 + 1) :
    IdMir (w3.setCell ⟨pb, 2, none⟩ (.slice (some ⟨g, 0, none⟩) (ks.length + 1) cap)) B pb mi (ks ++ [(s, c)]) ∧ Kept B w2 (w3.setCell ⟨pb, 2, none⟩ (.slice (some ⟨g, 0, none⟩) (ks.length + 1) cap)) := by
  obtain ⟨lp, lm, hi, hp, hr, ho⟩ := h
  obtain ⟨es, ck, hmb⟩ := hi.block
  have hne : pb ≠ mi := fun e => by rw [e, hmb] at hp; cases hp
  have hb3 : ∀ k o, w2.heap[k]? = some o → some k ≠ cv.ownBlock → w3.heap[k]? = w2.heap[k]? := fun k o hk hne' => by
    have h1 : (((w2.alloc o1).alloc o2).alloc o3).drew.heap[k]? = some o := heap_a (heap_a (heap_a hk))
    rw [hgrow.block k (lt_of_heap h1) hne', h1, hk]
  have hpo : some pb ≠ cv.ownBlock := fun e => by
    obtain ⟨_, cur, hc⟩ := ownsRow_block hr e.symm
    rw [hp] at hc; cases hc
  have hmo : some mi ≠ cv.ownBlock := fun e => by
    obtain ⟨_, cur, hc⟩ := ownsRow_block hr e.symm
    rw [hmb] at hc; cases hc
  have hgp : g ≠ pb := fun e => by
    rcases hat with h1 | h1
    · exact hpo (by rw [h1, e])
    · have := lt_of_heap hp; omega
  have hp3 := (hb3 pb _ hp hpo).trans hp
  have hk3 : Kept B w2 w3 := by
    refine Kept.grown (w := (((w2.alloc o1).alloc o2).alloc o3).drew) (((((Kept.refl B w2).alloc o1).alloc o2).alloc o3).drew) hgrow (fun k hk => ?_)
    obtain ⟨hB, cur, hc⟩ := ownsRow_block hr hk
    exact Mine.cells hB (heap_a (heap_a (heap_a hc)) : (((w2.alloc o1).alloc o2).alloc o3).drew.heap[k]? = _) (.inr (.inl rfl))
  refine ⟨⟨lp, lm, ?_, c0, .slice (some ⟨g, 0, none⟩) (ks.length + 1) cap, c3, c4, c5, c6, c7, c8, _, ?_, ?_, ho.snoc (r := r) hr.1⟩, hk3.setCell (Mine.cells lp hp3 (.inl rfl)) _⟩
  · rw [List.length_append]
    exact hi.of_block ((Below.heap_setCell w3 _ _ mi (Ne.symm hne)).trans (hb3 mi _ hmb hmo))
  · exact heap_setCell_same hp3 _
  · rw [List.length_append]
    refine ownsRow_of_block hown (fun k hk => Below.heap_setCell w3 _ _ k (fun e => ?_))
    simp [Value.ownBlock] at hk
    exact hgp (by rw [hk]; exact e)

attribute [local go_sem ↓] app_fold

set_option maxHeartbeats 2000000 in
/-- A creative that has no number yet. -/
theorem id_new {w : World} {B pb mi : Nat} {ks : List (ByteArray × ByteArray)} (h : IdMir w B pb mi ks) (hk : ks.length ≤ 5000) {s c : ByteArray} (hs : s.size ≤ maxLen) (hc : c.size ≤ maxLen) (hm : ¬ idxIn ks (s, c) < ks.length) :
    Calls Try.prog 29 #[.pointer (some ⟨pb, 0, none⟩), .agg #[.string s, .string c]] w fun e w' => e = .returned (.int .i32 ks.length) ∧ IdMir w' B pb mi (ks ++ [(s, c)]) ∧ Kept B w w' := by
  have hmm := @run_makeMap Try.prog
  have HW : ∀ nq, IdMir ((w.alloc (.cells #[.string s, .string c] 30)).drewN nq) B pb mi ks ∧ Kept B w ((w.alloc (.cells #[.string s, .string c] 30)).drewN nq) ∧ ((w.alloc (.cells #[.string s, .string c] 30)).drewN nq).heap[w.heap.size]? = some (.cells #[.string s, .string c] 30 (0, 0)) := fun nq =>
    ⟨(h.alloc _).drewN nq, ((Kept.refl B w).alloc _).drewN nq, heap_alloc_new w _⟩
  replace HW : Hid (∀ nq, IdMir ((w.alloc (.cells #[.string s, .string c] 30)).drewN nq) B pb mi ks ∧ Kept B w ((w.alloc (.cells #[.string s, .string c] 30)).drewN nq) ∧ ((w.alloc (.cells #[.string s, .string c] 30)).drewN nq).heap[w.heap.size]? = some (.cells #[.string s, .string c] 30 (0, 0))) := HW
  obtain ⟨_, _, hi, c0, cv, c3, c4, c5, c6, c7, c8, xs, hp, hr, _⟩ := h
  obtain ⟨ca, cc, rfl⟩ := ownsRow_form hr
  have h1 := (free_of_row hp (o := 1) (v := .map (some mi)) rfl).cell
  have h2 := (free_of_row hp (o := 2) (v := .slice ca ks.length cc) rfl).cell
  have hpb := lt_of_heap hp
  have hl : ∀ nq, (Instr.lookup 49 (.map (some mi)) (.agg #[.string s, .string c]) true).run Try.prog ((w.alloc (.cells #[.string s, .string c] 30)).drewN nq) = .ok (.tuple #[.int .i32 0, .bool false]) ((w.alloc (.cells #[.string s, .string c] 30)).drewN nq) := fun nq => by
    have := (hi.of_block (w' := (w.alloc (.cells #[.string s, .string c] 30)).drewN nq) (Below.heap_alloc w _ mi hi.lt)).look_ok law30 Try.underlying49 (zero21 _) (key30 hs hc)
    rw [idsOf_pair, if_neg hm] at this
    exact this
  have HK : Hid (ks.length ≤ 5000 ∧ s.size ≤ maxLen ∧ c.size ≤ maxLen ∧ ¬ idxIn ks (s, c) < ks.length) := ⟨hk, hs, hc, hm⟩
  clear hi hp hr hm hs hc
  go_enter Try.func29, Try.ntmps29
  go_wp2
  go_quiet (fail)
  go_wp2
  obtain ⟨hM, hK0, hbx⟩ := HW.out nq
  clear HW hl h1 h2
  have hxb : ((w.alloc (.cells #[.string s, .string c] 30)).drewN nq).heap.size = w.heap.size + 1 := by simp [World.drewN]
  generalize ((w.alloc (.cells #[.string s, .string c] 30)).drewN nq) = W at *
  obtain ⟨c0, cv, c3, c4, c5, c6, c7, c8, xs, w2, hpW, ⟨ca', cc', hcv⟩, hmu, hH, hK2, hsz, hblk⟩ := half hM hk HK.out.2.1 HK.out.2.2.1 HK.out.2.2.2
  subst hcv
  have hneM : w.heap.size ≠ mi := hM.ids.ne hbx
  clear hM
  have hbx2 := (hblk w.heap.size (by omega) hneM).trans hbx
  have c1 := (free_of_row hpW (o := 1) (v := .map (some mi)) rfl).cell
  have k0 := (free_of_row hbx (o := 0) (v := .string s) rfl).cell
  have k1 := (free_of_row hbx (o := 1) (v := .string c) rfl).cell
  have HB : Hid (w2.heap[w.heap.size]? = some (.cells #[.string s, .string c] 30 (0, 0))) := hbx2
  have HK2 : Hid (Kept B w w2) := hK0.trans hK2
  clear hbx hbx2 hblk hneM hpW hK0 hK2 hsz hxb
  go_region
  go_wp2
  clear hmu c1 k0 k1
  have e0 := (free_of_row HB.out (o := 0) (v := .string s) rfl).cell
  have e1 := (free_of_row HB.out (o := 1) (v := .string c) rfl).cell
  have hF := free_of_row hH.blk (o := 2) (v := .slice ca' ks.length cc') rfl
  have d2 := hF.cell
  have hno : some pb ≠ (Value.slice ca' ks.length cc').ownBlock := fun e => by
    obtain ⟨_, cur, hc⟩ := ownsRow_block hH.row e.symm
    have hb := hH.blk
    rw [hc] at hb; cases hb
  have hBs : B ≤ w2.heap.size := Nat.le_of_lt (Nat.lt_of_le_of_lt hH.lowP (lt_of_heap hH.blk))
  obtain ⟨i0, hi0, hz0, hz1, hz2⟩ := info_parts info67
  have hnb : ∀ (a b : Nat), (((((w2.alloc (.map #[] 0)).alloc (.map #[] 0)).alloc (.cells #[.string s, .string c, .int .i64 0, .string ⟨#[]⟩, .map (some a), .map (some b), .slice none 0 0, .slice none 0 0] 67)).drew).heap[w2.heap.size + 1 + 1]?) = some (.cells #[.string s, .string c, .int .i64 0, .string ⟨#[]⟩, .map (some a), .map (some b), .slice none 0 0, .slice none 0 0] 67) := by
    intro a b
    have := heap_alloc_new ((w2.alloc (.map #[] 0)).alloc (.map #[] 0)) (.cells #[.string s, .string c, .int .i64 0, .string ⟨#[]⟩, .map (some a), .map (some b), .slice none 0 0, .slice none 0 0] 67)
    rw [show ((w2.alloc (.map #[] 0)).alloc (.map #[] 0)).heap.size = w2.heap.size + 1 + 1 from by simp] at this
    exact this
  obtain ⟨gA, capA, wA, hapA, hownA, hgrowA, hatA, _⟩ := run_append_lies (P := Try.prog) ((((w2.alloc (.map #[] 0)).alloc (.map #[] 0)).alloc (.cells #[.string s, .string c, .int .i64 0, .string ⟨#[]⟩, .map (some (w2.heap.size)), .map (some (w2.heap.size + 1)), .slice none 0 0, .slice none 0 0] 67)).drew) 58 58 B 67 i0 z67 8 120 Try.underlying58 hi0 hz0 hz1 hz2 rfl (by decide) (.slice ca' ks.length cc') ks.length xs (by exact ((hH.row.alloc _).alloc _).alloc _) ⟨w2.heap.size + 1 + 1, 0, none⟩ 1 1 [.string s, .string c, .int .i64 0, .string ⟨#[]⟩, .map (some (w2.heap.size)), .map (some (w2.heap.size + 1)), .slice none 0 0, .slice none 0 0] (by rfl) (by exact World.news_of_block (hnb _ _)) (by simp [Value.oneCell']) (by decide) (by unfold maxLen; omega) (by omega) (by simp; omega) (w2.heap.size + 1 + 1 + 1) (by simp)
  have hFA := (hF.alloc.alloc.alloc.drew).grown hgrowA hno
  have hfcA := hFA.cell
  have hffA := hFA.free
  have finA : Hid (_ ∧ _) := half_done hH hownA hgrowA hatA
  replace hapA : appRun Try.prog 58 (.slice ca' ks.length cc') (.slice (some ⟨w2.heap.size + 1 + 1, 0, none⟩) 1 1) _ = _ := hapA
  clear hownA hgrowA hatA hFA
  obtain ⟨gB, capB, wB, hapB, hownB, hgrowB, hatB, _⟩ := run_append_lies (P := Try.prog) ((((w2.alloc (.map #[] 0)).alloc (.map #[] 0)).alloc (.cells #[.string s, .string c, .int .i64 0, .string ⟨#[]⟩, .map (some (w2.heap.size + 1)), .map (some (w2.heap.size)), .slice none 0 0, .slice none 0 0] 67)).drew) 58 58 B 67 i0 z67 8 120 Try.underlying58 hi0 hz0 hz1 hz2 rfl (by decide) (.slice ca' ks.length cc') ks.length xs (by exact ((hH.row.alloc _).alloc _).alloc _) ⟨w2.heap.size + 1 + 1, 0, none⟩ 1 1 [.string s, .string c, .int .i64 0, .string ⟨#[]⟩, .map (some (w2.heap.size + 1)), .map (some (w2.heap.size)), .slice none 0 0, .slice none 0 0] (by rfl) (by exact World.news_of_block (hnb _ _)) (by simp [Value.oneCell']) (by decide) (by unfold maxLen; omega) (by omega) (by simp; omega) (w2.heap.size + 1 + 1 + 1) (by simp)
  have hFB := (hF.alloc.alloc.alloc.drew).grown hgrowB hno
  have hfcB := hFB.cell
  have hffB := hFB.free
  have finB : Hid (_ ∧ _) := half_done hH hownB hgrowB hatB
  replace hapB : appRun Try.prog 58 (.slice ca' ks.length cc') (.slice (some ⟨w2.heap.size + 1 + 1, 0, none⟩) 1 1) _ = _ := hapB
  clear hownB hgrowB hatB hFB
  clear hF hnb hno hBs hi0 hz0 hz1 hz2
  have r1 : ∀ o, (w2.alloc o).cell? ⟨pb, 2, none⟩ = some (.slice ca' ks.length cc') := fun _ => cell_a d2
  have r2 : ∀ o o', ((w2.alloc o).alloc o').cell? ⟨pb, 2, none⟩ = some (.slice ca' ks.length cc') := fun _ _ => cell_a (cell_a d2)
  have r3 : ∀ o o' o'', (((w2.alloc o).alloc o').alloc o'').cell? ⟨pb, 2, none⟩ = some (.slice ca' ks.length cc') := fun _ _ _ => cell_a (cell_a (cell_a d2))
  have q1 : pb < w2.heap.size := lt_of_heap hH.blk
  have q2 : w.heap.size < w2.heap.size := lt_of_heap HB.out
  have HHH : Hid (Half w2 B pb mi ks (s, c) #[c0, .map (some mi), .slice ca' ks.length cc', c3, c4, c5, c6, c7, c8] (.slice ca' ks.length cc') xs) := hH
  clear hH HHH
  go_region
  · clear hapA hapB r1 r2 r3
    go_wp2
    go_ret
    exact ⟨rfl, finA.out.1, HK2.out.trans finA.out.2⟩
  · clear hapA hapB r1 r2 r3
    go_wp2
    go_ret
    exact ⟨rfl, finB.out.1, HK2.out.trans finB.out.2⟩

theorem id_any {w : World} {B pb mi : Nat} {ks : List (ByteArray × ByteArray)} (h : IdMir w B pb mi ks) (hk : ks.length ≤ 5000) {s c : ByteArray} (hs : s.size ≤ maxLen) (hc : c.size ≤ maxLen) :
    Calls Try.prog 29 #[.pointer (some ⟨pb, 0, none⟩), .agg #[.string s, .string c]] w fun e w' => e = .returned (.int .i32 (idxIn ks (s, c))) ∧ IdMir w' B pb mi (addKey ks (s, c)) ∧ Kept B w w' := by
  by_cases hm : idxIn ks (s, c) < ks.length
  · rw [show addKey ks (s, c) = ks from if_pos hm]
    exact id_old h hs hc hm
  · rw [show addKey ks (s, c) = ks ++ [(s, c)] from if_neg hm, show idxIn ks (s, c) = ks.length from by have := idxIn_le (s, c) ks; omega]
    exact id_new h hk hs hc hm

end Go.Proofs.Qxb6000541a
