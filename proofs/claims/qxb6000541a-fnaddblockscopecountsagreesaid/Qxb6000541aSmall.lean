import Derived.Test.Qxb6000541aAdd
import Derived.Test.Qxb6000541aOpen
namespace Go.Proofs.Qxb6000541a
open Go.RowKit Go.Maps

theorem eqB_true {a b : ByteArray} (h : a = b) : (a.toList == b.toList) = true := by rw [h]; simp
theorem eqB_false {a b : ByteArray} (h : a ≠ b) : (a.toList == b.toList) = false := by
  rw [ByteArray.toList_eq, ByteArray.toList_eq, beq_eq_false_iff_ne]
  intro e
  apply h
  obtain ⟨⟨l⟩⟩ := a
  obtain ⟨⟨m⟩⟩ := b
  simp at e
  rw [e]

theorem AMir.mono {w : World} {B pb sm ds cs n : Nat} {T : List Sc} {L : List (ByteArray × (ByteArray ⊕ (Int × ByteArray)))} (h : AMir w B pb sm ds cs T L n) {m : Nat} (hm : n ≤ m) : AMir w B pb sm ds cs T L m :=
  ⟨h.lowP, h.lowS, h.lowD, h.lowC, h.nodup, h.names, h.blk, fun c hc => let k := h.scopes c hc; ⟨k.top, k.site, k.low, k.lowD, k.lowC, k.cell0, k.cell1, k.dom.mono hm, k.cat.mono hm, k.tag⟩, h.home, h.sites, h.dsc.mono hm, h.csc.mono hm⟩

/-- addBlock, whatever the scope and the block. -/
theorem add_any {w : World} {B pb sm ds cs n : Nat} {T : List Sc} {L : List (ByteArray × (ByteArray ⊕ (Int × ByteArray)))} (h : AMir w B pb sm ds cs T L n) (hn : n ≤ 5000) (hL : L.length ≤ 5000) {s d co : ByteArray} {tx : Int} (hs : s.size ≤ maxLen) (hd : d.size ≤ maxLen) (htx : (Lit.int .i64 tx).wf = true) (hco : co.size ≤ maxLen) :
    Calls Try.prog 31 #[.pointer (some ⟨pb, 0, none⟩), .string s, .agg #[.string d, .int .i64 tx, .string co]] w fun e w' => e = .returned (.bool (ansL T L s (blkKey d tx co))) ∧ AMir w' B pb sm ds cs T (stepL T L s (blkKey d tx co)) (n + 1) ∧ Kept B w w' := by
  cases hsc : scopeAt T s with
  | none =>
    refine (add_none h hs hsc).mono ?_
    rintro e w' ⟨rfl, hA, hK⟩
    refine ⟨?_, ?_, hK⟩
    · simp [ansL, hsc]
    · rw [show stepL T L s (blkKey d tx co) = L from if_neg (by simp [hsc])]
      exact hA.mono (Nat.le_succ n)
  | some c =>
    by_cases he : d = ByteArray.empty
    · rw [show blkKey d tx co = .inr (tx, co) from if_pos he]
      cases hh : hasL L s (.inr (tx, co))
      · refine (add_cat_new h hn hL hs htx hco hsc he hh).mono ?_
        rintro e w' ⟨rfl, hA, hK⟩
        refine ⟨?_, ?_, hK⟩
        · simp [ansL, hsc, hh]
        · rw [show stepL T L s (.inr (tx, co)) = L ++ [(s, .inr (tx, co))] from if_pos (by simp [hsc, hh])]
          exact hA
      · refine (add_cat_old h hs htx hco hsc he hh).mono ?_
        rintro e w' ⟨rfl, hA, hK⟩
        refine ⟨?_, ?_, hK⟩
        · simp [ansL, hh]
        · rw [show stepL T L s (.inr (tx, co)) = L from if_neg (by simp [hh])]
          exact hA.mono (Nat.le_succ n)
    · rw [show blkKey d tx co = .inl d from if_neg he]
      cases hh : hasL L s (.inl d)
      · refine (add_dom_new h hn hL hs hd hsc he hh).mono ?_
        rintro e w' ⟨rfl, hA, hK⟩
        refine ⟨?_, ?_, hK⟩
        · simp [ansL, hsc, hh]
        · rw [show stepL T L s (.inl d) = L ++ [(s, .inl d)] from if_pos (by simp [hsc, hh])]
          exact hA
      · refine (add_dom_old h hs hd hsc he hh).mono ?_
        rintro e w' ⟨rfl, hA, hK⟩
        refine ⟨?_, ?_, hK⟩
        · simp [ansL, hh]
        · rw [show stepL T L s (.inl d) = L from if_neg (by simp [hh])]
          exact hA.mono (Nat.le_succ n)

theorem zzadd_any {w : World} {B pb sm ds cs n : Nat} {T : List Sc} {L : List (ByteArray × (ByteArray ⊕ (Int × ByteArray)))} (h : AMir w B pb sm ds cs T L n) (hn : n ≤ 5000) (hL : L.length ≤ 5000) {s d co : ByteArray} {tx : Int} (hs : s.size ≤ maxLen) (hd : d.size ≤ maxLen) (htx : (Lit.int .i64 tx).wf = true) (hco : co.size ≤ maxLen) :
    Calls Try.prog 22 #[.pointer (some ⟨pb, 0, none⟩), .string s, .agg #[.string d, .int .i64 tx, .string co]] w fun e w' => e = .returned (.bool (ansL T L s (blkKey d tx co))) ∧ AMir w' B pb sm ds cs T (stepL T L s (blkKey d tx co)) (n + 1) ∧ Kept B w w' := by
  go_enter Try.func22, Try.ntmps22
  go_wp2_with fail
  refine (add_any (h.alloc _) hn hL hs hd htx hco).mono ?_
  rintro e w' ⟨rfl, hM, hK⟩
  have HM : Hid (AMir w' B pb sm ds cs T (stepL T L s (blkKey d tx co)) (n + 1) ∧ Kept B w w') := ⟨hM, ((Kept.refl B w).alloc _).trans hK⟩
  clear hM hK
  go_wp2
  go_ret
  exact ⟨rfl, HM.out⟩

theorem opBlock_any (d co : ByteArray) (tx : Int) (w : World) : Calls Try.prog 19 #[.string d, .int .i64 tx, .string co] w fun e w' => e = .returned (.agg #[.string d, .int .i64 tx, .string co]) ∧ w' = w.alloc (.cells #[.string d, .int .i64 tx, .string co] 41) := by
  go_enter Try.func19, Try.ntmps19
  go_wp2
  exact bodyPost_ret (v := .agg #[.string d, .int .i64 tx, .string co]) (by simp [results, Try.results19, go_sem]) rfl ⟨rfl, rfl⟩

/-- Two blocks name the same thing. -/
theorem sameBlock_any (d co d' co' : ByteArray) (tx tx' : Int) (w : World) : Calls Try.prog 21 #[.agg #[.string d, .int .i64 tx, .string co], .agg #[.string d', .int .i64 tx', .string co']] w fun e w' =>
    e = .returned (.bool (decide (blkKey d tx co = blkKey d' tx' co'))) ∧ w' = (w.alloc (.cells #[.string d, .int .i64 tx, .string co] 41)).alloc (.cells #[.string d', .int .i64 tx', .string co'] 41) := by
  by_cases h1 : d = ByteArray.empty
  · by_cases h2 : d' = ByteArray.empty
    · have t1 := isEmpty_toList h1
      have t2 := isEmpty_toList h2
      by_cases h3 : tx = tx'
      · have t3 : (tx == tx') = true := by simpa using h3
        have hb : Hid ((co.toList == co'.toList) = decide (blkKey d tx co = blkKey d' tx' co')) := by
          unfold Hid blkKey
          rw [if_pos h1, if_pos h2, h3]
          by_cases h4 : co = co'
          · rw [eqB_true h4]; simp [h4]
          · rw [eqB_false h4]; simp [h4]
        clear h1 h2 h3
        go_enter Try.func21, Try.ntmps21
        go_wp2
        go_ret
        exact ⟨by rw [← hb.out]; rfl, rfl⟩
      · have t3 : (tx == tx') = false := by simpa using h3
        have hb : Hid (decide (blkKey d tx co = blkKey d' tx' co') = false) := by
          unfold Hid blkKey
          rw [if_pos h1, if_pos h2]
          simp [h3]
        clear h1 h2 h3
        go_enter Try.func21, Try.ntmps21
        go_wp2
        go_ret
        exact ⟨by rw [hb.out]; rfl, rfl⟩
    · have t1 := isEmpty_toList h1
      have t2 := not_isEmpty_toList h2
      have t4 : (d.toList == d'.toList) = false := eqB_false (fun e => h2 (e ▸ h1))
      have hb : Hid (decide (blkKey d tx co = blkKey d' tx' co') = false) := by
        unfold Hid blkKey
        rw [if_pos h1, if_neg h2]
        simp
      clear h1 h2
      go_enter Try.func21, Try.ntmps21
      go_wp2
      go_ret
      exact ⟨by rw [hb.out]; rfl, rfl⟩
  · have t1 := not_isEmpty_toList h1
    have hb : Hid ((d.toList == d'.toList) = decide (blkKey d tx co = blkKey d' tx' co')) := by
      unfold Hid blkKey
      rw [if_neg h1]
      by_cases h2 : d' = ByteArray.empty
      · rw [if_pos h2, eqB_false (fun e => h1 (e.trans h2))]; simp
      · rw [if_neg h2]
        by_cases h3 : d = d'
        · rw [eqB_true h3]; simp [h3]
        · rw [eqB_false h3]; simp [h3]
    clear h1
    go_enter Try.func21, Try.ntmps21
    go_wp2
    go_ret
    exact ⟨by rw [← hb.out]; rfl, rfl⟩

/-- A slice of ints as the walks are told of it. -/
structure IsInts (w : World) (a : Option Addr) (len cap b off : Nat) (zs : List Int) : Prop where
  length : zs.length = len
  le : len ≤ maxLen
  wf : ∀ i, (Lit.int .i64 (zs.getD i 0)).wf = true
  ix : ∀ i : Nat, i < len → ∀ w, (Instr.indexAt 34 (.slice a len cap) (.int .i64 i)).run Try.prog w = .ok (.pointer (some ⟨b, off + i, none⟩)) w
  cell : ∀ i, i < len → w.cell? ⟨b, off + i, none⟩ = some (.int .i64 (zs.getD i 0))
  low : 0 < len → b < w.heap.size

theorem IsInts.below {w w' : World} {a : Option Addr} {len cap b off : Nat} {zs : List Int} (h : IsInts w a len cap b off zs) {B : Nat} (hb : Below B w w') (hB : w.heap.size ≤ B) : IsInts w' a len cap b off zs :=
  ⟨h.length, h.le, h.wf, h.ix, fun i hi => by rw [hb.cell (p := ⟨b, off + i, none⟩) (Nat.lt_of_lt_of_le (h.low (by omega)) hB)]; exact h.cell i hi, fun hi => Nat.lt_of_lt_of_le (h.low hi) hb.size⟩

open Go.ChangeShapes Go.WideShapes Go.ChangeAt in
theorem index34 (b off len cap i : Nat) (hi : i < len) (w : World) : (Instr.indexAt 34 (.slice (some ⟨b, off, none⟩) len cap) (.int .i64 i)).run Try.prog w = .ok (.pointer (some ⟨b, off + i, none⟩)) w := by
  have hs : ∀ w, (sizeOf 3).run Try.prog w = .ok 1 w := fun w => by kernel_rfl
  have he : Try.prog.elem 34 = 3 := by kernel_rfl
  rw [run_indexAt_slice (h := by rw [he]; exact Try.underlying34), if_pos (by omega), he, hs]
  simp only [Result.andThen_ok, Nat.mul_one, Int.toNat_natCast]
  congr 3
  unfold Addr.add
  split
  · rename_i h; subst h; simp
  · rfl

open Go.ChangeShapes Go.WideShapes Go.ChangeAt in
/-- A slice of ints that came in, as the walks are told of it. -/
theorem isInts_of {H : Type} {enc : TypeId × Value → H} {W : World} {a : Option Addr} {len cap : Nat} {d : DataW H} {p : List MemPlace} (h : DataW.Trod enc Try.prog W 0 (fun _ => true) true 34 (.slice a len cap) d p) : ∃ b off zs, IsInts W a len cap b off zs := by
  obtain ⟨fuel, hf⟩ := h
  rcases open_ints Try.underlying34 Try.underlying3 cells3 hf with ⟨hcs, _⟩ | ⟨x, l, c, zs, hcs, _, hl, hm, hz, _, hcell, hwz⟩
  · simp [Value.cells] at hcs
    obtain ⟨rfl, rfl, rfl⟩ := hcs
    exact ⟨0, 0, [], rfl, Nat.zero_le _, fun i => by simp; decide, fun i hi => by omega, fun i hi => by omega, fun hi => by omega⟩
  · simp [Value.cells] at hcs
    obtain ⟨rfl, rfl, rfl⟩ := hcs
    simp only [if_true] at hz
    have hsm : ∀ i, (Lit.int .i64 ((zs.take len).getD i 0)).wf = true := fun i => by
      rw [List.getD_eq_getElem?_getD]
      cases hi : (zs.take len)[i]? with
      | none => simp; decide
      | some s => exact hwz s (List.mem_of_mem_take (List.mem_of_getElem? hi))
    by_cases h0 : len = 0
    · subst h0
      exact ⟨0, 0, zs.take 0, by simp, Nat.zero_le _, hsm, fun i hi => by omega, fun i hi => by omega, fun hi => by omega⟩
    · obtain ⟨b, off, spot⟩ := x
      have hspot : spot = none := by simpa [Addr.add] using World.cell?_spot (hcell 0 (by omega))
      subst hspot
      have hc' : ∀ j, j < zs.length → W.cell? ⟨b, off + j, none⟩ = some (.int .i64 (zs.getD j 0)) := fun j hj => by rw [← add_plain]; exact hcell j hj
      refine ⟨b, off, zs.take len, by simp; omega, by omega, hsm, fun i hi w => index34 b off len cap i hi w, fun i hi => ?_, fun hi => ?_⟩
      · rw [hc' i (by omega)]
        simp [List.getD_eq_getElem?_getD, hi]
      · have := hc' 0 (by omega)
        rcases Nat.lt_or_ge b W.heap.size with h1 | h1
        · exact h1
        · simp [World.cell?, Array.getElem?_eq_none h1] at this

/-- The call hands back whether p. -/
def BoolIff (e : Ending) (p : Prop) : Prop := ∃ t : Bool, e = .returned (.bool t) ∧ (t = true ↔ p)

/-- s is a scope of the publisher with these sites. -/
def siteIn (ss : List ByteArray) (s : ByteArray) : Prop := s = ByteArray.empty ∨ s ∈ ss

set_option maxHeartbeats 400000 in
theorem hasSite_any {w : World} {a : Option Addr} {len cap b off : Nat} {ss : List ByteArray} (H : IsStrs w a len cap b off ss) (s : ByteArray) :
    Calls Try.prog 20 #[.slice a len cap, .string s] w fun e w' => BoolIff e (siteIn ss s) ∧ w' = w := by
  by_cases he : s = ByteArray.empty
  · have t := isEmpty_toList he
    have hfin : Hid (siteIn ss s) := .inl he
    clear he
    go_enter Try.func20, Try.ntmps20
    go_wp2
    go_ret
    exact ⟨⟨true, rfl, by simpa using hfin.out⟩, rfl⟩
  · have t := not_isEmpty_toList he
    have HH : Hid (ss.length = len ∧ s ≠ ByteArray.empty) := ⟨H.length, he⟩
    obtain ⟨_, hl, _, hix, hc, _⟩ := H
    unfold maxLen at hl
    clear he
    go_enter Try.func20, Try.ntmps20
    go_wp2
    go_loop [5] (fun i => ∃ k : Nat, k ≤ len ∧ i = .int .i64 k ∧ Hid (∀ j, j < k → ss.getD j ByteArray.empty ≠ s)) (fun i => len - (intOf i).toNat)
    case atStart => exact ⟨0, Nat.zero_le _, rfl, fun j hj => by omega⟩
    case round =>
      obtain ⟨k, hk, rfl, HR⟩ := hrel
      by_cases hlt : k < len
      · have hix' := hix k hlt
        have hc' := hc k hlt
        by_cases hm : ss.getD k ByteArray.empty = s
        · have hfin : Hid (siteIn ss s) := .inr (by
            rw [← hm, List.getD_eq_getElem?_getD, List.getElem?_eq_getElem (by have := HH.out.1; omega)]
            exact List.getElem_mem _)
          have t1 : ((ss.getD k ByteArray.empty).toList == s.toList) = true := eqB_true hm
          clear hix hc hm HR
          generalize ss.getD k ByteArray.empty = x at *
          go_wp2
          go_ret
          exact ⟨⟨true, rfl, by simpa using hfin.out⟩, rfl⟩
        · have t1 : ((ss.getD k ByteArray.empty).toList == s.toList) = false := eqB_false hm
          have HR2 : Hid (∀ j, j < k + 1 → ss.getD j ByteArray.empty ≠ s) := fun j hj => by
            by_cases e : j = k
            · rw [e]; exact hm
            · exact HR.out j (by omega)
          clear hix hc hm HR
          generalize ss.getD k ByteArray.empty = x at *
          go_wp2
          go_round
          case rel => exact ⟨k + 1, by omega, by go_num, HR2⟩
          case measure => simp [intOf]; omega
      · have hfin : Hid (¬ siteIn ss s) := by
          rintro (h | h)
          · exact HH.out.2 h
          · obtain ⟨j, hj, e⟩ := List.mem_iff_getElem.1 h
            have := HR.out j (by have := HH.out.1; omega)
            rw [List.getD_eq_getElem?_getD, List.getElem?_eq_getElem hj] at this
            exact this e
        clear hix hc HR
        go_wp2
        go_ret
        exact ⟨⟨false, rfl, by simpa using hfin.out⟩, rfl⟩

/-- Too big, or all five lists are of at most 4096. -/
def SmallOr (e : Ending) (p : Prop) : Prop := ∃ t : Bool, e = .returned (.bool t) ∧ (t = false → p)

set_option maxHeartbeats 1000000 in
theorem tooBig_any {w : World} {a1 a2 a3 a4 a5 : Option Addr} {len1 cap1 b1 off1 len2 cap2 b2 off2 len3 cap3 b3 off3 len4 cap4 b4 off4 len5 cap5 b5 off5 : Nat} {s1 s2 s3 s5 : List ByteArray} {z4 : List Int}
    (H1 : IsStrs w a1 len1 cap1 b1 off1 s1) (H2 : IsStrs w a2 len2 cap2 b2 off2 s2) (H3 : IsStrs w a3 len3 cap3 b3 off3 s3) (_H4 : IsInts w a4 len4 cap4 b4 off4 z4) (H5 : IsStrs w a5 len5 cap5 b5 off5 s5) :
    Calls Try.prog 17 #[.slice a1 len1 cap1, .slice a2 len2 cap2, .slice a3 len3 cap3, .slice a4 len4 cap4, .slice a5 len5 cap5] w fun e w' => SmallOr e (len1 ≤ 4096 ∧ len2 ≤ 4096 ∧ len3 ≤ 4096 ∧ len4 ≤ 4096 ∧ len5 ≤ 4096) ∧ w' = w := by
  by_cases h1 : (4096 : Int) < len1
  · clear H1 H2 H3 H5
    go_enter Try.func17, Try.ntmps17
    go_wp2
    go_ret
    exact ⟨⟨true, rfl, fun h => by cases h⟩, rfl⟩
  by_cases h2 : (4096 : Int) < len2
  · clear H1 H2 H3 H5
    go_enter Try.func17, Try.ntmps17
    go_wp2
    go_ret
    exact ⟨⟨true, rfl, fun h => by cases h⟩, rfl⟩
  by_cases h3 : (4096 : Int) < len3
  · clear H1 H2 H3 H5
    go_enter Try.func17, Try.ntmps17
    go_wp2
    go_ret
    exact ⟨⟨true, rfl, fun h => by cases h⟩, rfl⟩
  by_cases h4 : (4096 : Int) < len4
  · clear H1 H2 H3 H5
    go_enter Try.func17, Try.ntmps17
    go_wp2
    go_ret
    exact ⟨⟨true, rfl, fun h => by cases h⟩, rfl⟩
  by_cases h5 : (4096 : Int) < len5
  · clear H1 H2 H3 H5
    go_enter Try.func17, Try.ntmps17
    go_wp2
    go_ret
    exact ⟨⟨true, rfl, fun h => by cases h⟩, rfl⟩
  have hall : Hid (len1 ≤ 4096 ∧ len2 ≤ 4096 ∧ len3 ≤ 4096 ∧ len4 ≤ 4096 ∧ len5 ≤ 4096) := ⟨by omega, by omega, by omega, by omega, by omega⟩
  have HH : Hid (IsStrs w a1 len1 cap1 b1 off1 s1 ∧ IsStrs w a2 len2 cap2 b2 off2 s2 ∧ IsStrs w a3 len3 cap3 b3 off3 s3 ∧ IsStrs w a5 len5 cap5 b5 off5 s5) := ⟨H1, H2, H3, H5⟩
  clear H1 H2 H3 H5
  go_enter Try.func17, Try.ntmps17
  go_wp2_with fail
  refine (strBytes_any HH.out.1).mono ?_
  rintro e w1 ⟨⟨t1, rfl, ht1, ht1'⟩, hw⟩
  subst hw
  go_wp2_with fail
  refine (strBytes_any HH.out.2.1).mono ?_
  rintro e w2 ⟨⟨t2, rfl, ht2, ht2'⟩, hw⟩
  subst hw
  go_wp2_with fail
  refine (strBytes_any HH.out.2.2.1).mono ?_
  rintro e w3 ⟨⟨t3, rfl, ht3, ht3'⟩, hw⟩
  subst hw
  go_wp2_with fail
  refine (strBytes_any HH.out.2.2.2).mono ?_
  rintro e w4 ⟨⟨t5, rfl, ht5, ht5'⟩, hw⟩
  subst hw
  go_wp2
  go_ret
  exact ⟨⟨_, rfl, fun _ => hall.out⟩, rfl⟩
end Go.Proofs.Qxb6000541a
