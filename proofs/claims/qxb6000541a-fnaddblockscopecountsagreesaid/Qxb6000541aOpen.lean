import Derived.Test.Qxb6000541aStr
import Derived.Test.Qxb6000541aMapIs
import Derived.ProofKit
import Derived.OpenShut
import Derived.ShutString
import Derived.ChangeOld
import Derived.Below
namespace Go.Proofs.Qxb6000541a
open Go.ChangeShapes Go.WideShapes Go.ChangeAt Go.RowKit

theorem own : ownKnob Try.prog.godebug = none := by kernel_rfl

theorem index22 (b off len cap i : Nat) (hi : i < len) (w : World) : (Instr.indexAt 22 (.slice (some ⟨b, off, none⟩) len cap) (.int .i64 i)).run Try.prog w = .ok (.pointer (some ⟨b, off + i, none⟩)) w := by
  have hs : ∀ w, (sizeOf 9).run Try.prog w = .ok 1 w := fun w => by kernel_rfl
  have he : Try.prog.elem 22 = 9 := by kernel_rfl
  rw [run_indexAt_slice (h := by rw [he]; exact Try.underlying22), if_pos (by omega), he, hs]
  simp only [Result.andThen_ok, Nat.mul_one, Int.toNat_natCast]
  congr 3
  unfold Addr.add
  split
  · rename_i h; subst h; simp
  · rfl

/-- A slice of strings that came in, as the walks are told of it. -/
theorem isStrs_of {H : Type} {enc : TypeId × Value → H} {W : World} {a : Option Addr} {len cap : Nat} {d : DataW H} {p : List MemPlace} (h : DataW.Trod enc Try.prog W 0 (fun _ => true) true 22 (.slice a len cap) d p) : ∃ b off ss, IsStrs W a len cap b off ss := by
  obtain ⟨fuel, hf⟩ := h
  rcases open_strings Try.underlying22 Try.underlying9 cells9 hf with ⟨hcs, _⟩ | ⟨x, l, c, ss, hcs, _, hl, hm, hz, _, hcell, hwz⟩
  · simp [Value.cells] at hcs
    obtain ⟨rfl, rfl, rfl⟩ := hcs
    exact ⟨0, 0, [], rfl, Nat.zero_le _, fun i => by simp, fun i hi => by omega, fun i hi => by omega, fun hi => by omega⟩
  · simp [Value.cells] at hcs
    obtain ⟨rfl, rfl, rfl⟩ := hcs
    simp only [if_true] at hz
    have hsm : ∀ i, ((ss.take len).getD i ByteArray.empty).size ≤ maxLen := fun i => by
      rw [List.getD_eq_getElem?_getD]
      cases hi : (ss.take len)[i]? with
      | none => simp
      | some s => exact hwz s (List.mem_of_mem_take (List.mem_of_getElem? hi))
    by_cases h0 : len = 0
    · subst h0
      exact ⟨0, 0, ss.take 0, by simp, Nat.zero_le _, hsm, fun i hi => by omega, fun i hi => by omega, fun hi => by omega⟩
    · obtain ⟨b, off, spot⟩ := x
      have hspot : spot = none := by simpa [Addr.add] using World.cell?_spot (hcell 0 (by omega))
      subst hspot
      have hc' : ∀ j, j < ss.length → W.cell? ⟨b, off + j, none⟩ = some (.string (ss.getD j ByteArray.empty)) := fun j hj => by rw [← add_plain]; exact hcell j hj
      refine ⟨b, off, ss.take len, by simp; omega, by omega, hsm, fun i hi w => index22 b off len cap i hi w, fun i hi => ?_, fun hi => ?_⟩
      · rw [hc' i (by omega)]
        simp [List.getD_eq_getElem?_getD, hi]
      · have := hc' 0 (by omega)
        rcases Nat.lt_or_ge b W.heap.size with h1 | h1
        · exact h1
        · simp [World.cell?, Array.getElem?_eq_none h1] at this

end Go.Proofs.Qxb6000541a
