import Derived.Test.Qxb6000541aIdNew
namespace Go.Proofs.Qxb6000541a
open Go.RowKit Go.Maps

theorem newBlockList_any (w : World) : Calls Try.prog 28 #[] w fun e w' => e = .returned (.agg #[.map (some (w.heap.size + 1)), .map (some (w.heap.size + 1 + 1)), .map (some (w.heap.size + 1 + 1 + 1))]) ∧
   w' = (((w.alloc (.cells #[.map (some (w.heap.size + 1)), .map (some (w.heap.size + 1 + 1)), .map (some (w.heap.size + 1 + 1 + 1))] 54)).alloc (.map #[] 0)).alloc (.map #[] 0)).alloc (.map #[] 0) := by
  have hmm := @run_makeMap Try.prog
  go_enter Try.func28, Try.ntmps28
  go_wp2
  exact bodyPost_ret (v := .agg #[.map (some (w.heap.size + 1)), .map (some (w.heap.size + 1 + 1)), .map (some (w.heap.size + 1 + 1 + 1))]) (by simp [results, Try.results28, go_sem]) rfl ⟨rfl, rfl⟩

theorem newMirror_any (w : World) : Calls Try.prog 11 #[] w fun e w' => e = .returned (.pointer (some ⟨w.heap.size + 1 + 1 + 1 + 1 + 1 + 1 + 1 + 1 + 1, 0, none⟩)) ∧ 
    w' = (((((((((w.alloc (.map #[] 0)).alloc (.map #[] 0)).alloc (.map #[] 0)).alloc (.cells #[.map (some (w.heap.size + 1 + 1 + 1 + 1)), .map (some (w.heap.size + 1 + 1 + 1 + 1 + 1)), .map (some (w.heap.size + 1 + 1 + 1 + 1 + 1 + 1))] 54)).alloc (.map #[] 0)).alloc (.map #[] 0)).alloc (.map #[] 0)).alloc (.map #[] 0)).alloc (.map #[] 0)).alloc
      (.cells #[.map (some w.heap.size), .map (some (w.heap.size + 1)), .slice none 0 0, .map (some (w.heap.size + 1 + 1)), .map (some (w.heap.size + 1 + 1 + 1 + 1)), .map (some (w.heap.size + 1 + 1 + 1 + 1 + 1)), .map (some (w.heap.size + 1 + 1 + 1 + 1 + 1 + 1)), .map (some (w.heap.size + 1 + 1 + 1 + 1 + 1 + 1 + 1)), .map (some (w.heap.size + 1 + 1 + 1 + 1 + 1 + 1 + 1 + 1))] 60) := by
  have hmm := @run_makeMap Try.prog
  go_enter Try.func11, Try.ntmps11
  go_wp2_with (go_at_call 28; refine (newBlockList_any _).mono ?_; rintro e w' ⟨rfl, rfl⟩)
  go_ret
  exact ⟨rfl, rfl⟩

theorem size_a (w : World) (o : Obj) : (w.alloc o).heap.size = w.heap.size + 1 := by simp

theorem MapIs.alloc {w : World} {k : TypeId} {b n : Nat} {f : Value → Option Value} (h : MapIs w k b n f) (o : Obj) : MapIs (w.alloc o) k b n f := h.of_block (Below.heap_alloc w o b h.lt)
theorem heap_at (w : World) (o : Obj) {n : Nat} (hn : w.heap.size = n) : (w.alloc o).heap[n]? = some o := by rw [← hn]; exact heap_alloc_new w o

theorem idsOf_nil : idsOf [] = fun _ => none := by
  funext v
  unfold idsOf
  cases pairOf v with
  | none => rfl
  | some p => simp [idxIn]

theorem newMirror_id (w : World) {B : Nat} (hB : B ≤ w.heap.size) : Calls Try.prog 11 #[] w fun e w' => ∃ pb mi, e = .returned (.pointer (some ⟨pb, 0, none⟩)) ∧ IdMir w' B pb mi [] ∧ Kept B w w' := by
  refine (newMirror_any w).mono ?_
  rintro e w' ⟨rfl, rfl⟩
  refine ⟨_, w.heap.size + 1, rfl, ⟨by omega, by omega, ?_, ?_⟩, ?_⟩
  · have h := MapIs.made (w.alloc (.map #[] 0)) 30
    rw [size_a] at h
    rw [show (fun _ => none : Value → Option Value) = idsOf [] from idsOf_nil.symm] at h
    exact (((((((h.alloc _).alloc _).alloc _).alloc _).alloc _).alloc _).alloc _).alloc _
  · exact ⟨_, .slice none 0 0, _, _, _, _, _, _, [], heap_at _ _ (by simp), World.ownsRow_nil _ _ _ _, fun j p h => by simp at h⟩
  · exact (((((((((((Kept.refl B w).alloc _).alloc _).alloc _).alloc _).alloc _).alloc _).alloc _).alloc _).alloc _).alloc _)

theorem zzid_any {w : World} {B pb mi : Nat} {ks : List (ByteArray × ByteArray)} (h : IdMir w B pb mi ks) (hk : ks.length ≤ 5000) {s c : ByteArray} (hs : s.size ≤ maxLen) (hc : c.size ≤ maxLen) :
    Calls Try.prog 12 #[.pointer (some ⟨pb, 0, none⟩), .agg #[.string s, .string c]] w fun e w' => e = .returned (.int .i32 (idxIn ks (s, c))) ∧ IdMir w' B pb mi (addKey ks (s, c)) ∧ Kept B w w' := by
  go_enter Try.func12, Try.ntmps12
  go_wp2_with fail
  refine (id_any (h.alloc _) hk hs hc).mono ?_
  rintro e w' ⟨rfl, hM, hK⟩
  have HM : Hid (IdMir w' B pb mi (addKey ks (s, c)) ∧ Kept B w w') := ⟨hM, ((Kept.refl B w).alloc _).trans hK⟩
  clear hM hK
  go_wp2
  go_ret
  exact ⟨rfl, HM.out⟩

theorem zzcount_any {w : World} {B pb mi : Nat} {ks : List (ByteArray × ByteArray)} (h : IdMir w B pb mi ks) :
    Calls Try.prog 13 #[.pointer (some ⟨pb, 0, none⟩)] w fun e w' => e = .returned (.int .i64 ks.length) ∧ w' = w := by
  obtain ⟨_, _, hi, c0, cv, c3, c4, c5, c6, c7, c8, xs, hp, hr, _⟩ := h
  obtain ⟨ca, cc, rfl⟩ := ownsRow_form hr
  have h2 := (free_of_row hp (o := 2) (v := .slice ca ks.length cc) rfl).cell
  clear hi hp hr
  go_enter Try.func13, Try.ntmps13
  go_wp2
  go_ret
  exact ⟨rfl, rfl⟩
end Go.Proofs.Qxb6000541a
