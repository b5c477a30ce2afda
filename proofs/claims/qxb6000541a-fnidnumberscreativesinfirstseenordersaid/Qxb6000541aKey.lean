import Derived.Test.Qxb6000541aMir
import Derived.Test.Qxb6000541aIdLaw
namespace Go.Proofs.Qxb6000541a
open Go.RowKit Go.Maps

theorem index58 (g len cap i : Nat) (hi : i < len) (w : World) : (Instr.indexAt 58 (.slice (some ⟨g, 0, none⟩) len cap) (.int .i64 i)).run Try.prog w = .ok (.pointer (some ⟨g, 8 * i, none⟩)) w := by
  have hs : ∀ w, (sizeOf 67).run Try.prog w = .ok 8 w := fun w => by kernel_rfl
  have he : Try.prog.elem 58 = 67 := by kernel_rfl
  rw [run_indexAt_slice (h := by rw [he]; exact Try.underlying58), if_pos (by omega), he, hs]
  simp only [Result.andThen_ok, Int.toNat_natCast]
  congr 3
  unfold Addr.add
  split
  · rename_i h
    have : i = 0 := by omega
    subst this; rfl
  · simp [Nat.mul_comm]

theorem zzkey_any {w : World} {B pb mi : Nat} {ks : List (ByteArray × ByteArray)} (h : IdMir w B pb mi ks) {i : Nat} {p : ByteArray × ByteArray} (hp : ks[i]? = some p) :
    Calls Try.prog 14 #[.pointer (some ⟨pb, 0, none⟩), .int .i64 i] w fun e w' => e = .returned (.agg #[.string p.1, .string p.2]) ∧ ∃ o, w' = w.alloc o := by
  obtain ⟨_, _, hi, c0, cv, c3, c4, c5, c6, c7, c8, xs, hb, hr, hok⟩ := h
  have hil : i < ks.length := (List.getElem?_eq_some_iff.1 hp).1
  obtain ⟨x0, x1⟩ := hok i p hp
  rcases hr.2 with ⟨_, hn0⟩ | ⟨g, cap, cur, hv, hg, hh, hcap, hmax, hsz, hx⟩
  · omega
  subst hv
  have h2 := (free_of_row hb (o := 2) (v := .slice (some ⟨g, 0, none⟩) ks.length cap) rfl).cell
  have hix := index58 g ks.length cap i hil
  have e0 : cur[8 * i]? = some (.string p.1) := by
    rw [← hx, List.getElem?_take, if_pos (by omega)] at x0
    simpa using x0
  have e1 : cur[8 * i + 1]? = some (.string p.2) := by
    rw [← hx, List.getElem?_take, if_pos (by omega)] at x1
    simpa using x1
  have k0 := (free_of_row hh e0).cell
  have k1 := (free_of_row hh e1).cell
  have l1 := lt_of_heap hh
  have l2 := lt_of_heap hb
  clear hx e0 e1 x0 x1 hi hr hok hb hh hp
  obtain ⟨s, c⟩ := p
  simp only at k0 k1 ⊢
  go_enter Try.func14, Try.ntmps14
  go_wp2
  exact bodyPost_ret (v := .agg #[.string s, .string c]) (by simp [results, Try.results14, go_sem]) rfl ⟨rfl, _, rfl⟩
end Go.Proofs.Qxb6000541a
