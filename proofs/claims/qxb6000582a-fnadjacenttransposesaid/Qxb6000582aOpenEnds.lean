import Derived.Test.Qxb6000582aClone
import Derived.ProofKit
import Derived.OpenShut
import Derived.ShutString
import Derived.ChangeOld
namespace Go.Proofs.Qxb6000582a
open Go.ChangeShapes Go.WideShapes Go.ChangeAt Go.RowKit

theorem adj_own : ownKnob Try.prog.godebug = none := by kernel_rfl
theorem laidOut : laidOutB Try.prog = true := by kernel_rfl
theorem cells31 : Try.prog.cellsOf 31 = 2 := by kernel_rfl
theorem cells3 : Try.prog.cellsOf 3 = 1 := by kernel_rfl

theorem two_cells {w : World} {base : Nat} {a : Addr} {x y : Value} (h : w.cells? base a 2 = some [x, y]) : w.cell? (a.add 0) = some x ∧ w.cell? (a.add 1) = some y := by
  unfold World.cells? at h
  split at h
  · simp [List.range_succ] at h
    cases h1 : w.cell? (a.add 0) with
    | none => rw [h1] at h; cases h
    | some u =>
      cases h2 : w.cell? (a.add 1) with
      | none => rw [h1, h2] at h; cases h
      | some u' =>
        rw [h1, h2] at h
        simp at h
        rw [h.1, h.2]
        exact ⟨rfl, rfl⟩
  · cases h

theorem isEnds_of {H : Type} {enc : TypeId × Value → H} {W : World} {a : Option Addr} {len cap : Nat} {d : DataW H} {p : List MemPlace} (h : DataW.Trod enc Try.prog W 0 (fun _ => true) true 29 (.slice a len cap) d p) :
    ∃ b off e0 e1, IsEnds W a len cap b off e0 e1 ∧ (a = none → len = 0) ∧ len ≤ maxLen := by
  obtain ⟨fuel, hf⟩ := h
  rcases DataW.trod_slice Try.underlying29 hf with ⟨hcs, _⟩ | ⟨ad, len', cap', elems, rest, n, _, hcs, _, _, hl, hm, hlen, hel, _, _⟩
  · simp [Value.cells] at hcs
    obtain ⟨rfl, rfl, rfl⟩ := hcs
    exact ⟨0, 0, fun _ => 0, fun _ => 0, ⟨fun i hi => by omega, fun i hi => by omega, fun i hi => by omega, fun hi => by omega⟩, fun _ => rfl, Nat.zero_le _⟩
  · simp [Value.cells] at hcs
    obtain ⟨rfl, rfl, rfl⟩ := hcs
    have each : ∀ i, i < len → ∃ n0 n1, W.cell? ((ad.add (i * 2)).add 0) = some (.int .i64 n0) ∧ W.cell? ((ad.add (i * 2)).add 1) = some (.int .i64 n1) := by
      intro i hi
      have h1 := hel i hi
      rw [List.getElem?_eq_getElem (by omega), cells31, Option.bind_eq_some_iff] at h1
      obtain ⟨cs, h2, h3⟩ := h1
      obtain ⟨xs, m, _, _, h4, h5, h6⟩ := DataW.trod_array Try.underlying31 h3
      rw [cells31] at h4
      rw [cells3] at h6
      match cs, h4 with
      | [x, y], _ =>
        have g0 := h6 0 (by omega)
        have g1 := h6 1 (by omega)
        rw [List.getElem?_eq_getElem (by omega)] at g0 g1
        obtain ⟨n0, q0, _⟩ := DataW.trod_int Try.underlying3 g0
        obtain ⟨n1, q1, _⟩ := DataW.trod_int Try.underlying3 g1
        simp at q0 q1
        obtain ⟨k0, k1⟩ := two_cells h2
        exact ⟨n0, n1, by rw [k0, q0], by rw [k1, q1]⟩
    by_cases h0 : len = 0
    · subst h0
      exact ⟨0, 0, fun _ => 0, fun _ => 0, ⟨fun i hi => by omega, fun i hi => by omega, fun i hi => by omega, fun hi => by omega⟩, fun _ => rfl, Nat.zero_le _⟩
    · obtain ⟨b, off, spot⟩ := ad
      have hspot : spot = none := by
        obtain ⟨n0, n1, k0, _⟩ := each 0 (by omega)
        simpa [Addr.add] using World.cell?_spot k0
      subst hspot
      have each2 : ∀ i, ∃ n0 n1, i < len → W.cell? ⟨b, off + 2 * i, none⟩ = some (.int .i64 n0) ∧ W.cell? ⟨b, off + 2 * i + 1, none⟩ = some (.int .i64 n1) := by
        intro i
        by_cases hi : i < len
        · obtain ⟨n0, n1, k0, k1⟩ := each i hi
          simp only [add_addr, Nat.add_zero] at k0 k1
          rw [Nat.mul_comm i 2] at k0 k1
          exact ⟨n0, n1, fun _ => ⟨k0, k1⟩⟩
        · exact ⟨0, 0, fun h => absurd h hi⟩
      refine ⟨b, off, fun i => (each2 i).choose, fun i => (each2 i).choose_spec.choose, ⟨fun i hi w => index29 b off len cap i hi w, fun i hi => ((each2 i).choose_spec.choose_spec hi).1, fun i hi => ((each2 i).choose_spec.choose_spec hi).2, fun hi => ?_⟩, (fun h => by cases h), by omega⟩
      obtain ⟨n0, n1, k⟩ := each2 0
      have := (k hi).1
      rcases Nat.lt_or_ge b W.heap.size with h1 | h1
      · exact h1
      · simp [World.cell?, Array.getElem?_eq_none h1] at this
end Go.Proofs.Qxb6000582a
