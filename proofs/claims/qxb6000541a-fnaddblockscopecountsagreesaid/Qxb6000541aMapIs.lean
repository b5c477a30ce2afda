import Derived.Test.Qxb6000541aRows
import Derived.Maps.OwnSet
import Derived.Maps.OwnOps
import Derived.ProofKit
namespace Go.Proofs.Qxb6000541a
open Go.RowKit Go.Maps

/-- Each element's value is its own token: so one reader serves bools, integers and pointers. -/
def tokR (v : Value) : Option (DataW Value × List MemPlace) := some (.held v, [])

def tokAt : Option Value → DataW Value
  | some v => .held v
  | none => .nil

/-- Block b of w is a map of at most n entries, keyed by type k; at each key value it holds what f says. -/
def MapIs (w : World) (k : TypeId) (b n : Nat) (f : Value → Option Value) : Prop :=
  ∃ D : DataW Value, w.ownsMap Try.prog k tokR b n D ∧ ∀ key kl, keyOf Try.prog k key = some kl → D.atKey kl .nil = tokAt (f key)

/-- The value can be a key of type k. -/
def IsKeyOf (k : TypeId) (key : Value) : Prop := ∃ kl, keyOf Try.prog k key = some kl

theorem MapIs.made (w : World) (k : TypeId) : MapIs (w.alloc (.map #[] 0)) k w.heap.size 0 (fun _ => none) :=
  ⟨_, World.ownsMap_made w Try.prog k tokR, fun _ _ _ => rfl⟩

theorem MapIs.of_block {w w' : World} {k : TypeId} {b n : Nat} {f : Value → Option Value} (h : MapIs w k b n f) (hb : w'.heap[b]? = w.heap[b]?) : MapIs w' k b n f := by
  obtain ⟨D, ⟨es, clock, h1, r⟩, h2⟩ := h
  exact ⟨D, ⟨es, clock, hb.trans h1, r⟩, h2⟩

theorem MapIs.mono {w : World} {k : TypeId} {b n n' : Nat} {f : Value → Option Value} (h : MapIs w k b n f) (hn : n ≤ n') : MapIs w k b n' f := by
  obtain ⟨D, h1, h2⟩ := h
  exact ⟨D, h1.mono hn, h2⟩

theorem MapIs.block {w : World} {k : TypeId} {b n : Nat} {f : Value → Option Value} (h : MapIs w k b n f) : ∃ es clock, w.heap[b]? = some (.map es clock) := by
  obtain ⟨D, ⟨es, clock, hb, _⟩, _⟩ := h
  exact ⟨es, clock, hb⟩

theorem MapIs.lt {w : World} {k : TypeId} {b n : Nat} {f : Value → Option Value} (h : MapIs w k b n f) : b < w.heap.size := by
  obtain ⟨D, h1, h2⟩ := h
  exact h1.lt

/-- A block of cells is no map. -/
theorem MapIs.ne {w : World} {k : TypeId} {b n : Nat} {f : Value → Option Value} (h : MapIs w k b n f) {c : Nat} {x : Array Value} {e : TypeId} {z : Nat × Nat} (hc : w.heap[c]? = some (.cells x e z)) : c ≠ b := by
  obtain ⟨es, clock, hb⟩ := h.block
  intro e; subst e; rw [hb] at hc; simp at hc

theorem atKey_cases (D : DataW Value) (kl : Lit) : (∀ z, D.atKey kl z = z) ∨ ∃ y, ∀ z, D.atKey kl z = y := by
  cases D <;> try (exact Or.inl fun _ => rfl)
  rename_i es
  cases h : es.find? (fun p => p.1.sameKey kl) with
  | none => exact Or.inl fun z => by simp [DataW.atKey, h]
  | some p => exact Or.inr ⟨p.2, fun z => by simp [DataW.atKey, h]⟩

/-- 'm[k]'. -/
theorem MapIs.look {w : World} {k t e : TypeId} {b n : Nat} {f : Value → Option Value} (h : MapIs w k b n f) (K : Keyed Try.prog k) (ht : Try.prog.underlying t = some (.map k e)) {z : Value} (hz : (zeroValue e).run Try.prog w = .ok z w)
    {key : Value} (hkey : IsKeyOf k key) : (Instr.lookup t (.map (some b)) key false).run Try.prog w = .ok ((f key).getD z) w := by
  obtain ⟨D, h1, h2⟩ := h
  obtain ⟨kl, hkl⟩ := hkey
  obtain ⟨v, ps, hrun, hv⟩ := h1.lookup K ht hz (zd := .held z) (zp := []) rfl hkl
  have h3 := h2 key kl hkl
  rw [hrun]
  simp only [tokR, Option.some.injEq, Prod.mk.injEq] at hv
  rcases atKey_cases D kl with h4 | ⟨y, h4⟩
  · rw [h4] at h3 hv
    cases hf : f key with
    | none => simp at hv; simp [hv.1]
    | some u => rw [hf] at h3; simp [tokAt] at h3
  · rw [h4] at h3 hv
    cases hf : f key with
    | none => rw [hf] at h3; rw [h3] at hv; simp [tokAt] at hv
    | some u => rw [hf] at h3; rw [h3] at hv; simp [tokAt] at hv; simp [hv.1]

/-- 'v, ok := m[k]'. -/
theorem MapIs.look_ok {w : World} {k t e : TypeId} {b n : Nat} {f : Value → Option Value} (h : MapIs w k b n f) (K : Keyed Try.prog k) (ht : Try.prog.underlying t = some (.map k e)) {z : Value} (hz : (zeroValue e).run Try.prog w = .ok z w)
    {key : Value} (hkey : IsKeyOf k key) : (Instr.lookup t (.map (some b)) key true).run Try.prog w = .ok (.tuple #[(f key).getD z, .bool (f key).isSome]) w := by
  obtain ⟨D, h1, h2⟩ := h
  obtain ⟨kl, hkl⟩ := hkey
  obtain ⟨v, ps, hrun, hv⟩ := h1.look_ok K ht hz (zd := .held z) (zp := []) rfl hkl
  have h3 := h2 key kl hkl
  rw [hrun]
  simp only [tokR, Option.some.injEq, Prod.mk.injEq] at hv
  rcases atKey_cases D kl with h4 | ⟨y, h4⟩
  · rw [has_false_of_atKey h4]
    rw [h4] at h3 hv
    cases hf : f key with
    | none => simp at hv; simp [hv.1]
    | some u => rw [hf] at h3; simp [tokAt] at h3
  · rw [has_true_of_atKey h4]
    rw [h4] at h3 hv
    cases hf : f key with
    | none => rw [hf] at h3; rw [h3] at hv; simp [tokAt] at hv
    | some u => rw [hf] at h3; rw [h3] at hv; simp [tokAt] at hv; simp [hv.1]

/-- 'm[k] = v'. -/
theorem MapIs.store {w : World} {k t e : TypeId} {b n : Nat} {f : Value → Option Value} (h : MapIs w k b n f) (K : Keyed Try.prog k) (ht : Try.prog.underlying t = some (.map k e)) (hn : n < maxLen)
    {key : Value} (hkey : IsKeyOf k key) (v : Value) {f' : Value → Option Value} (hsame : f' key = some v) (hother : ∀ x, IsKeyOf k x → x ≠ key → f' x = f x) :
    ∃ w', (Instr.mapUpdate t (.map (some b)) key v).run Try.prog w = .ok () w' ∧ MapIs w' k b (n + 1) f' ∧ w.grownBy w' (some b) ∧ w'.heap.size = w.heap.size := by
  obtain ⟨D, h1, h2⟩ := h
  obtain ⟨kl, hkl⟩ := hkey
  obtain ⟨w', hrun, hown, hturn⟩ := h1.store K ht hn (val := v) (d := .held v) (ps := []) hkl rfl
  refine ⟨w', hrun, ⟨_, hown, fun x xl hx => ?_⟩, hturn.grown, ?_⟩
  · by_cases hxe : x = key
    · subst hxe
      rw [hkl] at hx
      cases hx
      rw [hsame, atKey_put_same h1.isMap (K.key hkl)]; rfl
    · rw [hother x ⟨xl, hx⟩ hxe, atKey_put_other (fun e => hxe (K.inj hx (by rw [e]; exact hkl)))]
      exact h2 x xl hx
  · obtain ⟨es, clock, es', clock', hb, rfl⟩ := hturn
    simp [ChangeMaps.setBlock]

theorem laidOut : laidOutB Try.prog = true := by kernel_rfl
theorem row30 : 30 < Try.prog.types.size := of_decide_eq_true (by kernel_rfl)
theorem wide30 : (match Try.prog.underlying 30 with | some (.array _ _) | some (.struct _) => true | _ => false) = true := by rw [Try.underlying30]
theorem law30 : Keyed Try.prog 30 := Keyed.of_law (deep_law_laid laidOut (m := 3) (by omega) row30 (by kernel_rfl) wide30)
theorem row39 : 39 < Try.prog.types.size := of_decide_eq_true (by kernel_rfl)
theorem wide39 : (match Try.prog.underlying 39 with | some (.array _ _) | some (.struct _) => true | _ => false) = true := by rw [Try.underlying39]
theorem law39 : Keyed Try.prog 39 := Keyed.of_law (deep_law_laid laidOut (m := 3) (by omega) row39 (by kernel_rfl) wide39)
theorem law9 : Keyed Try.prog 9 := string_keyed Try.underlying9
theorem key9 {s : ByteArray} (h : s.size ≤ maxLen) : IsKeyOf 9 (.string s) := ⟨_, WideMaps.keyOf_string_mk Try.underlying9 h⟩
theorem cells30 : Try.prog.cellsOf 30 = 2 := by kernel_rfl
theorem cells9 : Try.prog.cellsOf 9 = 1 := by kernel_rfl
theorem keyType30 : Try.prog.keyType 30 = true := by kernel_rfl
theorem cells39 : Try.prog.cellsOf 39 = 2 := by kernel_rfl
theorem cells3 : Try.prog.cellsOf 3 = 1 := by kernel_rfl
theorem keyType39 : Try.prog.keyType 39 = true := by kernel_rfl
theorem lits30 (m : Nat) {s c : ByteArray} (h : s.size ≤ maxLen) (hc : c.size ≤ maxLen) : Try.prog.keyLits (m + 2) 30 [.string s, .string c] = some [.string s.data.toList, .string c.data.toList] := by
  simp [Program.keyLits, Try.underlying30, Try.underlying9, cells30, cells9, h, hc]
theorem lits39 (m : Nat) {n : Int} {c : ByteArray} (h : (Lit.int .i64 n).wf = true) (hc : c.size ≤ maxLen) : Try.prog.keyLits (m + 2) 39 [.int .i64 n, .string c] = some [.int .i64 n, .string c.data.toList] := by
  simp [Program.keyLits, Try.underlying39, Try.underlying9, Try.underlying3, cells39, cells9, cells3, h, hc]
theorem key30 {s c : ByteArray} (h : s.size ≤ maxLen) (hc : c.size ≤ maxLen) : IsKeyOf 30 (.agg #[.string s, .string c]) := by
  obtain ⟨m, hm⟩ : ∃ m, Try.prog.types.size = m + 1 := ⟨Try.prog.types.size - 1, by have := row30; omega⟩
  have h1 := lits30 m h hc
  unfold IsKeyOf keyOf
  rw [Try.underlying30, hm]
  simp only [keyType30, Value.formed, Try.underlying30, cells30, Value.cells]
  exact ⟨_, by rw [h1]; rfl⟩
theorem key39 {n : Int} {c : ByteArray} (h : (Lit.int .i64 n).wf = true) (hc : c.size ≤ maxLen) : IsKeyOf 39 (.agg #[.int .i64 n, .string c]) := by
  obtain ⟨m, hm⟩ : ∃ m, Try.prog.types.size = m + 1 := ⟨Try.prog.types.size - 1, by have := row30; omega⟩
  have h1 := lits39 m h hc
  unfold IsKeyOf keyOf
  rw [Try.underlying39, hm]
  simp only [keyType39, Value.formed, Try.underlying39, cells39, Value.cells]
  exact ⟨_, by rw [h1]; rfl⟩

end Go.Proofs.Qxb6000541a
