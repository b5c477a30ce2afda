import Derived.Test.Qxb6000582aSplits
import Derived.Deep.QuietTactic
import Derived.Deep.AppendLies
import Derived.Below
namespace Go.Proofs.Qxb6000582a
open Go.RowKit

theorem lt_of_heap {w : World} {b : Nat} {o : Obj} (h : w.heap[b]? = some o) : b < w.heap.size := (Array.getElem?_eq_some_iff.1 h).1

theorem ownsRow_block {w : World} {B : Nat} {e : TypeId} {size : Nat} {v : Value} {n : Nat} {xs : List Value} (h : w.ownsRow B e size v n xs) {k : Nat} (hk : v.ownBlock = some k) : B ≤ k ∧ ∃ cur, w.heap[k]? = some (.cells cur e (0, 0)) := by
  rcases h.2 with ⟨rfl, rfl⟩ | ⟨g, cap, cur, rfl, hg, hh, r⟩
  · simp [Value.ownBlock] at hk
  · simp [Value.ownBlock] at hk; subst hk; exact ⟨hg, cur, hh⟩

theorem ownsRow_of_block {w w' : World} {B : Nat} {e : TypeId} {size : Nat} {v : Value} {n : Nat} {xs : List Value} (h : w.ownsRow B e size v n xs) (hb : ∀ k, v.ownBlock = some k → w'.heap[k]? = w.heap[k]?) : w'.ownsRow B e size v n xs := by
  obtain ⟨hl, ho⟩ := h
  refine ⟨hl, ?_⟩
  rcases ho with ho | ⟨g, cap, cur, hv, hg, hh, r⟩
  · exact .inl ho
  · exact .inr ⟨g, cap, cur, hv, hg, (hb g (by rw [hv]; rfl)).trans hh, r⟩

theorem info9 : (Try.prog.info? 9).map (fun i => (i.zero, i.size, i.bytes)) = some (some (.string ByteArray.empty), 1, 16) := by kernel_rfl
theorem info_parts {t : TypeId} {z : Value} {s b : Nat} (h : (Try.prog.info? t).map (fun i => (i.zero, i.size, i.bytes)) = some (some z, s, b)) : ∃ i, Try.prog.info? t = some i ∧ i.zero = some z ∧ i.size = s ∧ i.bytes = b := by
  cases hi : Try.prog.info? t with
  | none => rw [hi] at h; cases h
  | some i => rw [hi] at h; simp at h; exact ⟨i, rfl, h.1, h.2.1, h.2.2⟩

theorem index26 (b off len cap i : Nat) (hi : i < len) (w : World) : (Instr.indexAt 26 (.slice (some ⟨b, off, none⟩) len cap) (.int .i64 i)).run Try.prog w = .ok (.pointer (some ⟨b, off + i, none⟩)) w := by
  have hs : ∀ w, (sizeOf 9).run Try.prog w = .ok 1 w := fun w => by kernel_rfl
  have he : Try.prog.elem 26 = 9 := by kernel_rfl
  rw [run_indexAt_slice (h := by rw [he]; exact Try.underlying26), if_pos (by omega), he, hs]
  simp only [Result.andThen_ok, Nat.mul_one, Int.toNat_natCast]
  congr 3
  unfold Addr.add
  split
  · rename_i h; subst h; simp
  · rfl

/-! ### The plain law -/

/-- The fields of s from place k on, as pairs (start, end). -/
def FieldsFrom (s : ByteArray) (k : Nat) : List (Nat × Nat) → Prop
  | [] => ∀ i, k ≤ i → i < s.size → wh s i = true
  | (a, b) :: L => k ≤ a ∧ a < b ∧ b ≤ s.size ∧ (∀ i, k ≤ i → i < a → wh s i = true) ∧ (∀ i, a ≤ i → i < b → wh s i = false) ∧ (b < s.size → wh s b = true) ∧ FieldsFrom s b L

theorem FieldsFrom.skip {s : ByteArray} {k : Nat} (hk : wh s k = true) : ∀ {M}, FieldsFrom s (k + 1) M → FieldsFrom s k M
  | [], h => fun i h1 h2 => by
    by_cases e : i = k
    · rw [e]; exact hk
    · exact h i (by omega) h2
  | (a, b) :: L, ⟨h1, h2, h3, h4, h5⟩ => ⟨by omega, h2, h3, fun i h1 h2 => by
    by_cases e : i = k
    · rw [e]; exact hk
    · exact h4 i (by omega) h2, h5⟩

/-- What the state machine knows: out holds L, and it stands in a field that opened at st, or in none. -/
def Mid (s : ByteArray) (L : List (Nat × Nat)) (i : Nat) : Option Nat → Prop
  | none => ∀ M, FieldsFrom s i M → FieldsFrom s 0 (L ++ M)
  | some st => st < i ∧ (∀ j, st ≤ j → j < i → wh s j = false) ∧ ∀ M, FieldsFrom s st M → FieldsFrom s 0 (L ++ M)

theorem Mid.white_none {s : ByteArray} {L : List (Nat × Nat)} {i : Nat} (h : Mid s L i none) (hw : wh s i = true) : Mid s L (i + 1) none :=
  fun M hM => h M (FieldsFrom.skip hw hM)
theorem Mid.white_some {s : ByteArray} {L : List (Nat × Nat)} {i st : Nat} (h : Mid s L i (some st)) (hi : i < s.size) (hw : wh s i = true) : Mid s (L ++ [(st, i)]) (i + 1) none := fun M hM => by
  rw [List.append_assoc]
  exact h.2.2 ((st, i) :: M) ⟨Nat.le_refl _, h.1, by omega, fun j h1 h2 => by omega, h.2.1, fun _ => hw, FieldsFrom.skip hw hM⟩
theorem Mid.black_none {s : ByteArray} {L : List (Nat × Nat)} {i : Nat} (h : Mid s L i none) (hw : wh s i = false) : Mid s L (i + 1) (some i) :=
  ⟨by omega, fun j h1 h2 => by rw [show j = i by omega]; exact hw, h⟩
theorem Mid.black_some {s : ByteArray} {L : List (Nat × Nat)} {i st : Nat} (h : Mid s L i (some st)) (hw : wh s i = false) : Mid s L (i + 1) (some st) :=
  ⟨by have := h.1; omega, fun j h1 h2 => by
    by_cases e : j = i
    · rw [e]; exact hw
    · exact h.2.1 j h1 (by omega), h.2.2⟩
theorem Mid.end_none {s : ByteArray} {L : List (Nat × Nat)} (h : Mid s L s.size none) : FieldsFrom s 0 L := by
  have := h [] (fun i h1 h2 => by omega)
  simpa using this
theorem Mid.end_some {s : ByteArray} {L : List (Nat × Nat)} {st : Nat} (h : Mid s L s.size (some st)) : FieldsFrom s 0 (L ++ [(st, s.size)]) :=
  h.2.2 [(st, s.size)] ⟨Nat.le_refl _, h.1, Nat.le_refl _, fun j h1 h2 => by omega, h.2.1, fun h => by omega, fun i h1 h2 => by omega⟩

def texts (s : ByteArray) (L : List (Nat × Nat)) : List Value := L.map (fun p => .string (s.extract p.1 p.2))

/-! ### modelFields -/

structure OSt (w wr : World) (s : ByteArray) (out : Value) (L : List (Nat × Nat)) : Prop where
  row : wr.ownsRow w.heap.size 9 1 out L.length (texts s L)
  below : Below w.heap.size w wr

theorem OSt.drewN {w wr : World} {s : ByteArray} {out : Value} {L : List (Nat × Nat)} (h : OSt w wr s out L) (n : Nat) : OSt w (wr.drewN n) s out L :=
  ⟨ownsRow_of_block h.row (fun _ _ => rfl), ⟨h.below.os, h.below.tape, h.below.output, h.below.size, h.below.block⟩⟩

theorem OSt.app {w wr w' : World} {s : ByteArray} {out : Value} {L : List (Nat × Nat)} (h : OSt w wr s out L) {a b : Nat} {o : Obj} {g p : Nat} (r : w'.ownsRow w.heap.size 9 1 (.slice (some ⟨g, 0, none⟩) (L.length + 1) p) (L.length + 1) (texts s L ++ [.string (s.extract a b)])) (hg : (wr.alloc o).grownBy w' out.ownBlock) :
    OSt w w' s (.slice (some ⟨g, 0, none⟩) (L.length + 1) p) (L ++ [(a, b)]) :=
  ⟨by simpa [texts] using r, (h.below.alloc h.below.size o).grown hg (by have := h.below.size; simp; omega) (fun k hk => (ownsRow_block h.row hk).1)⟩

theorem OSt.start (w : World) (s : ByteArray) : OSt w w s (.slice none 0 0) [] :=
  ⟨World.ownsRow_nil _ _ _ _, Below.refl _ _⟩

def stVal : Option Nat → Value
  | none => .int .i64 (-1)
  | some k => .int .i64 k

def Fielded (w : World) (s : ByteArray) (e : Ending) (w' : World) : Prop := ∃ oa op L, e = .returned (.slice oa L.length op) ∧ FieldsFrom s 0 L ∧ L.length ≤ s.size + 1 ∧ OSt w w' s (.slice oa L.length op) L

set_option maxHeartbeats 2000000 in
theorem modelFields_any (s : ByteArray) (hs : s.size ≤ 1048576) (w : World) : Calls Try.prog 13 #[.string s] w fun e w' => Fielded w s e w' := by
  go_enter Try.func13, Try.ntmps13
  go_wp2_with fail
  go_loopw [3, 4, 5] (fun out sv i wr => ∃ k : Nat, k ≤ s.size ∧ i = .int .i64 k ∧ ∃ oa op L o, out = .slice oa L.length op ∧ sv = stVal o ∧ Hid (Mid s L k o ∧ L.length ≤ k ∧ OSt w wr s (.slice oa L.length op) L)) (fun _ _ i _ => s.size - (intOf i).toNat)
  case atStart => exact ⟨0, Nat.zero_le _, rfl, none, 0, [], none, rfl, rfl, fun M hM => hM, Nat.zero_le _, OSt.start w s⟩
  case round =>
    obtain ⟨k, hk, rfl, oa, op, L, o, rfl, rfl, HR⟩ := hrel
    have hLk := HR.out.2.1
    by_cases hlt : k < s.size
    · go_wp2_with fail
      refine (isWhite_any _ _).mono ?_
      rintro e w' ⟨rfl, hw⟩
      subst hw
      rw [wh_eq s k hlt]
      cases hwk : wh s k
      · cases o with
        | none =>
          have HR2 := HR.out.1.black_none hwk
          unfold stVal
          go_wp2_with fail
          go_roundw
          case rel => exact ⟨k + 1, by omega, by go_num, oa, op, L, some k, rfl, rfl, HR2, by omega, HR.out.2.2⟩
          case measure => simp [intOf]; omega
        | some st =>
          have HR2 := HR.out.1.black_some hwk
          unfold stVal
          go_wp2_with fail
          go_roundw
          case rel => exact ⟨k + 1, by omega, by go_num, oa, op, L, some st, rfl, rfl, HR2, by omega, HR.out.2.2⟩
          case measure => simp [intOf]; omega
      · cases o with
        | none =>
          have HR2 := HR.out.1.white_none hwk
          unfold stVal
          go_wp2_with fail
          go_roundw
          case rel => exact ⟨k + 1, by omega, by go_num, oa, op, L, none, rfl, rfl, HR2, by omega, HR.out.2.2⟩
          case measure => simp [intOf]; omega
        | some st =>
          have HR2 := HR.out.1.white_some hlt hwk
          have hst : st < k := HR.out.1.1
          obtain ⟨i0, hi0, hz0, hz1, hz2⟩ := info_parts info9
          have hBs : w.heap.size ≤ w'.heap.size := HR.out.2.2.below.size
          have r1 := fun wx : World => run_slice_string (P := Try.prog) wx 9 s .i64 .i64 (st : Int) (k : Int) Try.underlying9 (by omega) (by omega) (by omega)
          simp only [Int.toNat_natCast] at r1
          have HA := fun (w7 : World) g p r hg => HR.out.2.2.app (w' := w7) (o := .cells #[.string (s.extract st k)] 9) (a := st) (b := k) (g := g) (p := p) r hg
          generalize hx : s.extract st k = x at *
          unfold stVal
          go_wp2_with (at_builtin; refine wpList_append_lies _ rfl (.tmp 18) (.tmp 23) 26 rfl w.heap.size 9 i0 (.string ByteArray.empty) 1 16 Try.underlying26 hi0 hz0 hz1 hz2 rfl (by decide) (.slice oa L.length op) L.length (texts s L) rfl (by exact HR.out.2.2.row.alloc _) ⟨w'.heap.size, 0, none⟩ 1 1 [.string x] rfl rfl (by exact World.news_of_block (heap_alloc_new _ _)) (by simp [Value.oneCell']) (by decide) (by unfold maxLen; omega) (by omega) (by simp; omega) (w'.heap.size + 1) (by simp) ?_; intro ga pa w7 ra1 hga ata lta; have HA2 : Hid (OSt w w7 s (.slice (some ⟨ga, 0, none⟩) (L.length + 1) pa) (L ++ [(st, k)])) := HA w7 ga pa ra1 hga; clear ra1 hga ata lta)
          go_roundw
          case rel => exact ⟨k + 1, by omega, by go_num, some ⟨ga, 0, none⟩, pa, L ++ [(st, k)], none, by simp, rfl, HR2, by simp; omega, by simpa using HA2.out⟩
          case measure => simp [intOf]; omega
    · obtain rfl : k = s.size := by omega
      cases o with
      | none =>
        have HR2 := HR.out.1.end_none
        unfold stVal
        go_wp2_with fail
        go_ret
        exact ⟨oa, op, L, rfl, HR2, by omega, HR.out.2.2⟩
      | some st =>
        have HR2 := HR.out.1.end_some
        have hst : st < s.size := HR.out.1.1
        obtain ⟨i0, hi0, hz0, hz1, hz2⟩ := info_parts info9
        have hBs : w.heap.size ≤ wr.heap.size := HR.out.2.2.below.size
        have r1 := fun wx : World => run_slice_string_l (P := Try.prog) wx 9 s Try.underlying9 .i64 (st : Int) (by omega) (by omega)
        simp only [Int.toNat_natCast] at r1
        have HA := fun (w7 : World) g p r hg => HR.out.2.2.app (w' := w7) (o := .cells #[.string (s.extract st s.size)] 9) (a := st) (b := s.size) (g := g) (p := p) r hg
        generalize hx : s.extract st s.size = x at *
        unfold stVal
        go_wp2_with (at_builtin; refine wpList_append_lies _ rfl (.tmp 30) (.tmp 34) 26 rfl w.heap.size 9 i0 (.string ByteArray.empty) 1 16 Try.underlying26 hi0 hz0 hz1 hz2 rfl (by decide) (.slice oa L.length op) L.length (texts s L) rfl (by exact HR.out.2.2.row.alloc _) ⟨wr.heap.size, 0, none⟩ 1 1 [.string x] rfl rfl (by exact World.news_of_block (heap_alloc_new _ _)) (by simp [Value.oneCell']) (by decide) (by unfold maxLen; omega) (by omega) (by simp; omega) (wr.heap.size + 1) (by simp) ?_; intro ga pa w7 ra1 hga ata lta; have HA2 : Hid (OSt w w7 s (.slice (some ⟨ga, 0, none⟩) (L.length + 1) pa) (L ++ [(st, s.size)])) := HA w7 ga pa ra1 hga; clear ra1 hga ata lta)
        go_ret
        exact ⟨some ⟨ga, 0, none⟩, pa, L ++ [(st, s.size)], by simp, HR2, by simp; omega, by simpa using HA2.out⟩

/-- A field, read back. -/
theorem text_at {w : World} {B : Nat} {s : ByteArray} {a : Option Addr} {cap : Nat} {L : List (Nat × Nat)} (h : w.ownsRow B 9 1 (.slice a L.length cap) L.length (texts s L)) {j : Nat} {r : Nat × Nat} (hj : L[j]? = some r) :
    ∃ g, (∀ w, (Instr.indexAt 26 (.slice a L.length cap) (.int .i64 j)).run Try.prog w = .ok (.pointer (some ⟨g, j, none⟩)) w) ∧ w.cell? ⟨g, j, none⟩ = some (.string (s.extract r.1 r.2)) := by
  have hjl : j < L.length := (List.getElem?_eq_some_iff.1 hj).1
  rcases h.2 with ⟨_, hn⟩ | ⟨g, cap', cur, hv, hg, hh, hcap, hmax, hsz, hx⟩
  · omega
  · cases hv
    refine ⟨g, fun w' => by simpa using index26 g 0 L.length cap j hjl w', ?_⟩
    have : (texts s L)[j]? = some (.string (s.extract r.1 r.2)) := by
      unfold texts
      rw [List.getElem?_map, hj]; rfl
    rw [← hx, List.getElem?_take, if_pos (by omega)] at this
    have h2 : cur[j]? = some (.string (s.extract r.1 r.2)) := by simpa using this
    simp [World.cell?, hh, h2]

theorem extract_extract (s : ByteArray) (k i j : Nat) (hj : k + j ≤ s.size) : (s.extract k s.size).extract i j = s.extract (k + i) (k + j) := by
  rw [ByteArray.extract_extract, Nat.min_eq_left hj]

theorem wh_rest {s : ByteArray} {k i : Nat} (h : k + i < s.size) : wh (s.extract k s.size) i = wh s (k + i) := wh_extract s k s.size i (Nat.le_refl _) h

theorem parts_nil {s : ByteArray} {k st en : Nat} (h : FieldsFrom s k []) (hp : Parts (s.extract k s.size) st en) : st = en := by
  have h1 := hp.le1
  have h2 := hp.le2
  rw [size_extract s k s.size (Nat.le_refl _)] at h2
  rcases Nat.lt_or_ge st en with hlt | hge
  · exfalso
    have := hp.name st (Nat.le_refl _) hlt
    rw [wh_rest (by omega), h (k + st) (by omega) (by omega)] at this
    cases this
  · omega

theorem parts_cons {s : ByteArray} {k st en a b : Nat} {R : List (Nat × Nat)} (h : FieldsFrom s k ((a, b) :: R)) (hp : Parts (s.extract k s.size) st en) : k + st = a ∧ k + en = b := by
  obtain ⟨g1, g2, g3, g4, g5, g6, _⟩ := h
  have h1 := hp.le1
  have h2 := hp.le2
  have hno := hp.no
  have hstop := hp.stop
  rw [size_extract s k s.size (Nat.le_refl _)] at h2 hno hstop
  have hst : k + st = a := by
    rcases Nat.lt_trichotomy (k + st) a with hlt | he | hgt
    · exfalso
      by_cases hse : st = en
      · have := hno hse; omega
      · have := hp.name st (Nat.le_refl _) (by omega)
        rw [wh_rest (by omega), g4 (k + st) (by omega) (by omega)] at this
        cases this
    · exact he
    · exfalso
      have := hp.lead (a - k) (by omega)
      rw [wh_rest (by omega), show k + (a - k) = a by omega, g5 a (Nat.le_refl _) g2] at this
      cases this
  refine ⟨hst, ?_⟩
  rcases Nat.lt_trichotomy (k + en) b with hlt | he | hgt
  · exfalso
    have := hstop (by omega)
    rw [wh_rest (by omega), g5 (k + en) (by omega) (by omega)] at this
    cases this
  · exact he
  · exfalso
    have := hp.name (b - k) (by omega) (by omega)
    rw [wh_rest (by omega), show k + (b - k) = b by omega, g6 (by omega)] at this
    cases this

theorem isEmpty_of_size {x : ByteArray} (h : x.size = 0) : x.toList.isEmpty = true := by
  rw [ByteArray.toList_eq]; simp; exact Array.eq_empty_of_size_eq_zero h
theorem not_isEmpty_of_size {x : ByteArray} (h : 0 < x.size) : x.toList.isEmpty = false := by
  rw [ByteArray.toList_eq]; simp; intro e
  have : x.size = 0 := by show x.data.size = 0; rw [e]; rfl
  omega

theorem extract_all (s : ByteArray) : s = s.extract 0 s.size := by simp

set_option maxHeartbeats 2000000 in
theorem fields_walk (s : ByteArray) (hs : s.size ≤ maxLen) (w : World) :
    Calls Try.prog 4 #[.string s] w fun e w' => e = .returned (.bool true) ∧ Below w.heap.size w w' := by
  go_enter Try.func4, Try.ntmps4
  go_wp2_with fail
  refine (zzBytes12 s hs w).mono ?_
  rintro e w' ⟨rfl, hw⟩
  subst hw
  by_cases hz : s.size ≤ 1048576
  · have hd : decide (s.size ≤ 1048576) = true := by simpa using hz
    rw [hd]
    clear hd
    go_wp2_with fail
    refine (modelFields_any s hz _).mono ?_
    rintro e w1 ⟨oa, op, L, rfl, hF, hlen, hO⟩
    have HS : Hid (FieldsFrom s 0 L ∧ OSt w' w1 s (.slice oa L.length op) L) := ⟨hF, hO⟩
    clear hF hO
    go_wp2_with fail
    go_loopw [4, 5] (fun rv kv wr => ∃ k : Nat, k ≤ s.size ∧ rv = .string (s.extract k s.size) ∧ ∃ D R, L = D ++ R ∧ kv = .int .i64 D.length ∧ Hid (FieldsFrom s k R ∧ OSt w' wr s (.slice oa L.length op) L)) (fun _ kv _ => L.length - (intOf kv).toNat)
    case atStart => exact ⟨0, Nat.zero_le _, by rw [← extract_all], [], L, rfl, rfl, HS⟩
    case round =>
      obtain ⟨k, hk, rfl, D, R, hLD, rfl, HR⟩ := hrel
      have hDL : D.length + R.length = L.length := by rw [hLD]; simp
      have szr : (s.extract k s.size).size = s.size - k := size_extract s k s.size (Nat.le_refl _)
      go_wp2_with fail
      refine (zzName (s.extract k s.size) (by unfold maxLen; omega) _).mono ?_
      rintro e w2 ⟨⟨st, en, hp, rfl⟩, n, hw⟩
      subst hw
      have hl1 := hp.le1
      have hl2 := hp.le2
      rw [szr] at hl2
      rw [szr, extract_extract s k st en (by omega), extract_extract s k en (s.size - k) (by omega), show k + (s.size - k) = s.size by omega]
      cases R with
      | nil =>
        have h1 := parts_nil HR.out.1 hp
        have h2 := hp.no h1
        rw [szr] at h2
        have t1 : (s.extract (k + st) (k + en)).toList.isEmpty = true := isEmpty_of_size (by rw [size_extract _ _ _ (by omega)]; omega)
        have t2 : (s.extract (k + en) s.size).toList.isEmpty = true := isEmpty_of_size (by rw [size_extract _ _ _ (by omega)]; omega)
        have HB : Hid (Below w'.heap.size w' (wr.drewN n)) := (HR.out.2.drewN n).below
        have hD : D.length = L.length := by simpa using hDL
        clear hp HR h1 h2 hDL hLD HS
        generalize s.extract (k + st) (k + en) = nm at *
        generalize s.extract (k + en) s.size = rs at *
        generalize s.extract k s.size = rr at *
        rw [hD]
        go_wp2
        go_ret
        exact ⟨by simp, HB.out⟩
      | cons ab R' =>
        obtain ⟨a, b⟩ := ab
        obtain ⟨h1, h2⟩ := parts_cons HR.out.1 hp
        rw [h1, h2]
        have g1 : k ≤ a := HR.out.1.1
        have g2 : a < b := HR.out.1.2.1
        have g3 : b ≤ s.size := HR.out.1.2.2.1
        have HR2 : Hid (FieldsFrom s b R' ∧ OSt w' (wr.drewN n) s (.slice oa L.length op) L) := ⟨HR.out.1.2.2.2.2.2.2, HR.out.2.drewN n⟩
        have hj : L[D.length]? = some (a, b) := by rw [hLD]; simp
        obtain ⟨g, hix, hc⟩ := text_at HR2.out.2.row hj
        have t1 : (s.extract a b).toList.isEmpty = false := not_isEmpty_of_size (by rw [size_extract _ _ _ (by omega)]; omega)
        have s2 : (s.extract b s.size).size = s.size - b := size_extract _ _ _ (Nat.le_refl _)
        have t3 : ((s.extract a b).toList == (s.extract a b).toList) = true := by simp
        have E2 : Hid (s.extract b s.size = s.extract b s.size) := rfl
        have hDl : D.length < L.length := by simp at hDL; omega
        have hLD2 : Hid (L = (D ++ [(a, b)]) ++ R') := by unfold Hid; rw [hLD]; simp
        clear hp HR h1 h2 hDL HS hLD hj
        simp only at hc
        generalize s.extract a b = nm at *
        generalize hrs : s.extract b s.size = rs at *
        generalize s.extract k s.size = rr at *
        have ERS : Hid (s.extract b s.size = rs) := hrs
        clear hrs E2
        go_wp2_with fail
        go_roundw
        case rel => exact ⟨b, g3, by rw [ERS.out], D ++ [(a, b)], R', hLD2.out, by simp, HR2⟩
        case measure => simp [intOf]; omega
  · have hd : decide (s.size ≤ 1048576) = false := by simpa using hz
    rw [hd]
    clear hd
    go_wp2
    go_ret
    exact ⟨rfl, Below.refl _ _⟩
end Go.Proofs.Qxb6000582a
