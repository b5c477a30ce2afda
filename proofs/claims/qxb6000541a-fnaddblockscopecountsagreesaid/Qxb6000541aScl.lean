import Derived.Test.Qxb6000541aRec
namespace Go.Proofs.Qxb6000541a
open Go.RowKit Go.Maps

def memB : List ByteArray → ByteArray → Bool
  | [], _ => false
  | x :: r, s => decide (x = s) || memB r s
theorem memB_iff (s : ByteArray) : ∀ l, memB l s = true ↔ s ∈ l
  | [] => by simp [memB]
  | x :: r => by
    rw [memB, List.mem_cons, Bool.or_eq_true, memB_iff s r, decide_eq_true_iff]
    exact or_congr_left ⟨Eq.symm, Eq.symm⟩

/-- The scopes' names behind k rounds. -/
def scTo (ss : List ByteArray) : Nat → List ByteArray
  | 0 => [ByteArray.empty]
  | k + 1 => if memB (scTo ss k) (ss.getD k ByteArray.empty) = true then scTo ss k else scTo ss k ++ [ss.getD k ByteArray.empty]

theorem scTo_length (ss : List ByteArray) : ∀ k, (scTo ss k).length ≤ k + 1
  | 0 => by simp [scTo]
  | k + 1 => by
    have := scTo_length ss k
    rw [scTo]
    split
    · omega
    · simp; omega

theorem scTo_nodup (ss : List ByteArray) : ∀ k, (scTo ss k).Nodup
  | 0 => by simp [scTo]
  | k + 1 => by
    have ih := scTo_nodup ss k
    rw [scTo]
    split
    · exact ih
    · rename_i h
      rw [List.nodup_append]
      refine ⟨ih, by simp, fun a ha b hb e => ?_⟩
      simp only [List.mem_singleton] at hb
      exact h ((memB_iff _ _).2 (by rw [← hb, ← e]; exact ha))

theorem scTo_mem (ss : List ByteArray) (s : ByteArray) : ∀ k, k ≤ ss.length → (s ∈ scTo ss k ↔ siteIn (ss.take k) s)
  | 0, _ => by simp [scTo, siteIn]
  | k + 1, hk => by
    have ih := scTo_mem ss s k (by omega)
    have e : ss.getD k ByteArray.empty = ss[k] := by rw [List.getD_eq_getElem?_getD, List.getElem?_eq_getElem (by omega)]; rfl
    have e2 : siteIn (ss.take (k + 1)) s ↔ siteIn (ss.take k) s ∨ s = ss[k] := by
      unfold siteIn
      rw [List.take_succ_eq_append_getElem (by omega), List.mem_append, List.mem_singleton, or_assoc]
    rw [scTo, e2, ← ih, e]
    split
    · rename_i h
      have := (memB_iff _ _).1 h
      exact ⟨.inl, fun h' => h'.elim id (fun e => e ▸ this)⟩
    · simp

theorem scTo_small (ss : List ByteArray) (h : ∀ i, (ss.getD i ByteArray.empty).size ≤ maxLen) : ∀ k, ∀ s ∈ scTo ss k, s.size ≤ maxLen
  | 0, s, hs => by
    simp [scTo] at hs
    subst hs
    exact Nat.zero_le _
  | k + 1, s, hs => by
    rw [scTo] at hs
    split at hs
    · exact scTo_small ss h k s hs
    · rcases List.mem_append.1 hs with hs | hs
      · exact scTo_small ss h k s hs
      · simp only [List.mem_singleton] at hs
        rw [hs]; exact h k

structure OSt (w wr : World) (out : Value) (sc : List ByteArray) : Prop where
  row : wr.ownsRow w.heap.size 9 1 out sc.length (sc.map .string)
  small : ∀ s ∈ sc, s.size ≤ maxLen
  below : Below w.heap.size w wr

theorem OSt.drewN {w wr : World} {out : Value} {sc : List ByteArray} (h : OSt w wr out sc) (n : Nat) : OSt w (wr.drewN n) out sc :=
  ⟨ownsRow_of_block h.row (fun _ _ => rfl), h.small, ⟨h.below.os, h.below.tape, h.below.output, h.below.size, h.below.block⟩⟩

theorem OSt.app {w wr w' : World} {out : Value} {sc : List ByteArray} (h : OSt w wr out sc) {x : ByteArray} (hx : x.size ≤ maxLen) {o : Obj} {g p : Nat} (r : w'.ownsRow w.heap.size 9 1 (.slice (some ⟨g, 0, none⟩) (sc.length + 1) p) (sc.length + 1) (sc.map .string ++ [.string x])) (hg : (wr.alloc o).grownBy w' out.ownBlock) :
    OSt w w' (.slice (some ⟨g, 0, none⟩) (sc.length + 1) p) (sc ++ [x]) := by
  refine ⟨by simpa using r, fun s hs => ?_, (h.below.alloc h.below.size o).grown hg (by have := h.below.size; simp; omega) (fun k hk => (ownsRow_block h.row hk).1)⟩
  rcases List.mem_append.1 hs with hs | hs
  · exact h.small s hs
  · simp only [List.mem_singleton] at hs
    rw [hs]; exact hx

theorem OSt.start (w : World) : OSt w (w.alloc (.cells #[.string ⟨#[]⟩] 9)) (.slice (some ⟨w.heap.size, 0, none⟩) 1 1) [ByteArray.empty] :=
  ⟨⟨rfl, .inr ⟨w.heap.size, 1, #[.string ⟨#[]⟩], rfl, Nat.le_refl _, heap_alloc_new w _, Nat.le_refl _, by unfold maxLen; omega, rfl, rfl⟩⟩, fun s hs => by simp at hs; subst hs; exact Nat.zero_le _, (Below.refl _ _).alloc (Nat.le_refl _) _⟩

set_option maxHeartbeats 2000000 in
set_option maxRecDepth 100000 in
theorem scopeList_any {w : World} {a : Option Addr} {len cap b off : Nat} {ss : List ByteArray} (H : IsStrs w a len cap b off ss) (hl : len ≤ 4096) :
    Calls Try.prog 24 #[.slice a len cap] w fun e w' => ∃ oa op, e = .returned (.slice oa (scTo ss len).length op) ∧ OSt w w' (.slice oa (scTo ss len).length op) (scTo ss len) := by
  have HH : Hid (IsStrs w a len cap b off ss) := H
  clear H
  go_enter Try.func24, Try.ntmps24
  go_wp2_with fail
  have HS : Hid (OSt w (w.alloc (.cells #[.string ⟨#[]⟩] 9)) (.slice (some ⟨w.heap.size, 0, none⟩) 1 1) (scTo ss 0)) := OSt.start w
  go_loopw [3, 4] (fun out i wr => ∃ k : Nat, k ≤ len ∧ i = .int .i64 k ∧ ∃ oa op, out = .slice oa (scTo ss k).length op ∧ Hid (OSt w wr (.slice oa (scTo ss k).length op) (scTo ss k))) (fun _ i _ => len - (intOf i).toNat)
  case atStart => exact ⟨0, Nat.zero_le _, rfl, _, _, rfl, HS⟩
  case round =>
    obtain ⟨k, hk, rfl, oa, op, rfl, HR⟩ := hrel
    have hsl := scTo_length ss k
    by_cases hlt : k < len
    · have hix := HH.out.ix k hlt
      have l0 := HH.out.low (by omega)
      have hz : (ss.getD k ByteArray.empty).size ≤ maxLen := HH.out.small k
      have EK : Hid (scTo ss (k + 1) = if memB (scTo ss k) (ss.getD k ByteArray.empty) = true then scTo ss k else scTo ss k ++ [ss.getD k ByteArray.empty]) := rfl
      have HC : Hid (∀ w', Below w.heap.size w w' → w'.cell? ⟨b, off + k, none⟩ = some (.string (ss.getD k ByteArray.empty))) := fun w' hb => (HH.out.below hb (Nat.le_refl _)).cell k hlt
      generalize ss.getD k ByteArray.empty = x at *
      obtain ⟨wo, hwo⟩ : ∃ wo : World, wo = wr := ⟨_, rfl⟩
      subst hwo
      go_wp2_with fail
      go_loopw [5, 6] (fun dup j w2 => dup = .bool false ∧ ∃ m : Nat, m ≤ (scTo ss k).length ∧ j = .int .i64 m ∧ Hid (∀ i, i < m → (scTo ss k)[i]? ≠ some x) ∧ Hid (OSt w w2 (.slice oa (scTo ss k).length op) (scTo ss k))) (fun _ j _ => (scTo ss k).length - (intOf j).toNat)
      case atStart => exact ⟨rfl, 0, Nat.zero_le _, rfl, fun i hi => by omega, HR⟩
      case round =>
        obtain ⟨rfl, m, hm, rfl, HN, HR2⟩ := hrel
        have hc := HC.out wr HR2.out.below
        by_cases hml : m < (scTo ss k).length
        · obtain ⟨y, hy⟩ : ∃ y, (scTo ss k)[m]? = some y := ⟨_, List.getElem?_eq_getElem hml⟩
          obtain ⟨g, hA⟩ := isStrs_row HR2.out.row HR2.out.small
          have i1 := hA.ix m hml
          have d1 := hA.cell m hml
          rw [List.getD_eq_getElem?_getD, hy] at d1
          simp only [Option.getD_some, Nat.zero_add] at d1 i1
          have HR3 : ∀ nq, Hid (OSt w (wr.drewN nq) (.slice oa (scTo ss k).length op) (scTo ss k)) := fun nq => HR2.out.drewN nq
          by_cases hxy : y = x
          · have t1 : (y.toList == x.toList) = true := eqB_true hxy
            have EK2 : Hid (scTo ss (k + 1) = scTo ss k) := EK.out.trans (if_pos ((memB_iff _ _).2 (by rw [← hxy]; exact List.mem_of_getElem? hy)))
            clear hA hy hxy HR HS HN
            go_wp2_with fail
            go_quiet (fail)
            clear i1 d1 t1 hix hc
            go_wp2_with fail
            go_roundw
            case rel => exact ⟨k + 1, by omega, by go_num, oa, op, by rw [EK2.out], by rw [EK2.out]; exact HR3 nq⟩
            case measure => simp [intOf]; omega
          · have t1 : (y.toList == x.toList) = false := eqB_false hxy
            have HN2 : Hid (∀ i, i < m + 1 → (scTo ss k)[i]? ≠ some x) := fun i hi e => by
              by_cases e1 : i = m
              · rw [e1, hy] at e; exact hxy (by simpa using e)
              · exact HN.out i (by omega) e
            clear hA hy hxy HR HS HN
            go_wp2_with fail
            go_quiet (fail)
            clear i1 d1 t1 hix hc
            go_wp2_with fail
            go_roundw
            case rel => exact ⟨rfl, m + 1, by omega, by go_num, HN2, HR3 nq⟩
            case measure => simp [intOf]; omega
        · have EK2 : Hid (scTo ss (k + 1) = scTo ss k ++ [x]) := EK.out.trans (if_neg (fun h => by
            obtain ⟨i, hi, e⟩ := List.mem_iff_getElem.1 ((memB_iff _ _).1 h)
            exact HN.out i (by omega) (by rw [List.getElem?_eq_getElem hi, e])))
          obtain ⟨i0, hi0, hz0, hz1, hz2⟩ := info_parts info9
          have hBs : w.heap.size ≤ wr.heap.size := HR2.out.below.size
          clear HR HS HN EK
          go_wp2_with (at_builtin; refine wpList_append_lies _ rfl (.tmp 31) (.tmp 36) 22 rfl w.heap.size 9 i0 (.string ByteArray.empty) 1 16 Try.underlying22 hi0 hz0 hz1 hz2 rfl (by decide) (.slice oa (scTo ss k).length op) (scTo ss k).length ((scTo ss k).map .string) rfl (by exact HR2.out.row.alloc _) ⟨wr.heap.size, 0, none⟩ 1 1 [.string x] rfl rfl (by exact World.news_of_block (heap_alloc_new _ _)) (by simp [Value.oneCell']) (by decide) (by unfold maxLen; omega) (by omega) (by simp; omega) (wr.heap.size + 1) (by simp) ?_; intro ga pa w7 ra1 hga ata lta; have HA : Hid (OSt w w7 (.slice (some ⟨ga, 0, none⟩) ((scTo ss k).length + 1) pa) (scTo ss k ++ [x])) := HR2.out.app hz ra1 hga; clear ra1 hga ata lta)
          go_roundw
          case rel => exact ⟨k + 1, by omega, by go_num, some ⟨ga, 0, none⟩, pa, by rw [EK2.out]; simp, by rw [EK2.out]; simpa using HA⟩
          case measure => simp [intOf]; omega
    · obtain rfl : k = len := by omega
      go_wp2_with fail
      go_ret
      exact ⟨oa, op, rfl, HR.out⟩
end Go.Proofs.Qxb6000541a
