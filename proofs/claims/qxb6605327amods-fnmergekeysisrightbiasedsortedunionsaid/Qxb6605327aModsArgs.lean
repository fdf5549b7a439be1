/-
  Seat b6605327aM: a slice of entries that came in, as the walks ask it.
-/
import Derived.Test.Qxb6605327aModsBase
import Derived.ProofKit
import Derived.Deep.SlicePairs
namespace Go.Proofs.Qxb6605327aMods
open Go.ChangeShapes Go.WideShapes Go.ChangeAt Go.RowKit
set_option linter.unusedVariables false

theorem plain_addr {w : World} {a : Addr} {v : Value} (h : w.cell? (a.add (0 * 2)) = some v) : ∃ b off, a = ⟨b, off, none⟩ := by
  obtain ⟨b, off, spot⟩ := a
  have hs : spot = none := by simpa [Addr.add] using World.cell?_spot h
  subst hs
  exact ⟨b, off, rfl⟩

theorem arg_of {H : Type} {enc : TypeId × Value → H} {W : World} {fuel : Nat} {ao : Option Addr} {n cap : Nat} {x : DataW H × List MemPlace}
    (h : DataW.trod enc Trym.prog W 0 (fun _ => true) true fuel 22 [.slice ao n cap] = some x) :
    ∃ (E : List (ByteArray × Int)) (b off : Nat), E.length = n ∧ n ≤ maxLen ∧ Arg W ao E b off ∧ ∀ r, r < E.length → (ky E r).size ≤ maxLen := by
  rcases Deep.open_slice_pairs Trym.underlying22 Trym.underlying40 (by kernel_rfl) rfl rfl (by kernel_rfl) (by kernel_rfl) h with ⟨hcs, _⟩ | ⟨a, len, c, m, q, V0, V1, D0, D1, P0, P1, hcs, _, hl, hm, hmm, _, hx⟩
  · simp at hcs
    obtain ⟨rfl, rfl, rfl⟩ := hcs
    exact ⟨[], 0, 0, rfl, Nat.zero_le _, ⟨fun h => by simp at h, fun r hr => by simp at hr, fun r hr => by simp at hr⟩, fun r hr => by simp at hr⟩
  · simp at hcs
    obtain ⟨rfl, rfl, rfl⟩ := hcs
    simp only [if_true] at hmm
    subst hmm
    have each : ∀ r, r < n → ∃ p : ByteArray × Int, V0 r = .string p.1 ∧ p.1.size ≤ maxLen ∧ V1 r = .int .u64 p.2 := fun r hr => by
      obtain ⟨_, _, h0, h1⟩ := hx r (by omega)
      obtain ⟨s, e1, _, hs⟩ := DataW.trod_string Trym.underlying9 h0
      obtain ⟨t, e2, _, _⟩ := DataW.trod_int Trym.underlying38 h1
      exact ⟨(s, t), by simpa using e1, hs, by simpa using e2⟩
    obtain ⟨y, hy⟩ := Deep.choose_lt each
    have ky_at : ∀ r, r < n → ky ((List.range n).map y) r = (y r).1 ∧ tg ((List.range n).map y) r = (y r).2 := fun r hr => by
      simp [ky, tg, List.getD, hr]
    have hlen : ((List.range n).map y).length = n := by simp
    by_cases h0 : n = 0
    · subst h0
      exact ⟨[], 0, 0, rfl, Nat.zero_le _, ⟨fun h => by simp at h, fun r hr => by simp at hr, fun r hr => by simp at hr⟩, fun r hr => by simp at hr⟩
    · obtain ⟨b, off, rfl⟩ := plain_addr (hx 0 (by omega)).1
      refine ⟨(List.range n).map y, b, off, hlen, by omega, ⟨fun _ => ⟨rfl, World.block_lt_of_cell? W _ (hx 0 (by omega)).1⟩, fun r hr => ?_, fun r hr => ?_⟩, fun r hr => ?_⟩
      · rw [hlen] at hr
        have := (hx r (by omega)).1
        rw [Addr.add_lit, (hy r hr).1] at this
        rw [(ky_at r hr).1]; exact this
      · rw [hlen] at hr
        have := (hx r (by omega)).2.1
        rw [Addr.add_lit, (hy r hr).2.2] at this
        rw [(ky_at r hr).2]; exact this
      · rw [hlen] at hr
        rw [(ky_at r hr).1]; exact (hy r hr).2.1

end Go.Proofs.Qxb6605327aMods
