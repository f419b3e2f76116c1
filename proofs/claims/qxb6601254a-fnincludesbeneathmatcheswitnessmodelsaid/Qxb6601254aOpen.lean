/-
  FROM THE READING OF AN ARGUMENT OF TYPE []Pat TO 'IsPats'.
-/
import Derived.Test.Qxb6601254aWalksD
import Derived.Deep.SlicePairs
import Derived.ChangeArms
namespace Go.Proofs.Qxb6601254a
open Go.ChangeShapes Go.WideShapes Go.ChangeAt Go.RowKit Go.Deep

/-- The bytes of a string value. -/
def strOf : Value → List UInt8
  | .string s => L s
  | _ => []

theorem open_pats {H : Type} {enc : TypeId × Value → H} {W : World} {fuel : Nat} {a : Option Addr} {len cap : Nat} {x : DataW H × List MemPlace}
    (h : DataW.trod enc Try.prog W 0 (fun _ => true) true fuel 24 [.slice a len cap] = some x) : ∃ ps : Pats, ps.length = len ∧ ps.length ≤ maxLen ∧ IsPats W a ps := by
  rcases open_slice_pairs Try.underlying24 Try.underlying34 (by kernel_rfl) rfl rfl (by kernel_rfl) (by kernel_rfl) h with ⟨hcs, _⟩ | ⟨a', l, c, m, n, V0, V1, D0, D1, P0, P1, hcs, _, hl, hm, hmm, _, hcell⟩
  · simp at hcs
    obtain ⟨rfl, rfl, rfl⟩ := hcs
    exact ⟨[], rfl, by simp, ⟨by simp, 0, 0, Nat.zero_le _, by simp⟩⟩
  · simp at hcs
    obtain ⟨rfl, rfl, rfl⟩ := hcs
    simp at hmm
    subst hmm
    have each : ∀ i, i < len → W.cell? (a'.add (i * 2)) = some (.string (S (strOf (V0 i)))) ∧ W.cell? (a'.add (i * 2 + 1)) = some (.string (S (strOf (V1 i)))) ∧ (strOf (V0 i)).length ≤ maxLen ∧ (strOf (V1 i)).length ≤ maxLen := by
      intro i hi
      obtain ⟨c0, c1, t0, t1⟩ := hcell i (by omega)
      obtain ⟨s0, e0, _, m0⟩ := DataW.trod_string Try.underlying9 t0
      obtain ⟨s1, e1, _, m1⟩ := DataW.trod_string Try.underlying9 t1
      simp at e0 e1
      rw [e0] at c0 ⊢
      rw [e1] at c1 ⊢
      exact ⟨by rw [strOf, S_L]; exact c0, by rw [strOf, S_L]; exact c1, by rw [strOf, L_len]; exact m0, by rw [strOf, L_len]; exact m1⟩
    refine ⟨(List.range len).map fun i => (strOf (V0 i), strOf (V1 i)), by simp, by simp; omega, ?_, ?_⟩
    · intro q hq
      obtain ⟨i, hi, rfl⟩ := List.mem_map.1 hq
      exact (each i (List.mem_range.1 hi)).2.2
    · by_cases h0 : len = 0
      · subst h0
        exact ⟨0, 0, Nat.zero_le _, by simp⟩
      · obtain ⟨b, off, spot⟩ := a'
        have hz := (each 0 (by omega)).1
        have hspot : spot = none := by simpa [Addr.add] using World.cell?_spot hz
        subst hspot
        have hb : b < W.heap.size := by simpa [Addr.add] using World.block_lt_of_cell? _ _ hz
        refine ⟨b, off, Nat.le_of_lt hb, fun i q hq => ?_⟩
        obtain ⟨hi, hv⟩ := List.getElem?_eq_some_iff.1 hq
        simp at hi hv
        subst hv
        obtain ⟨c0, c1, _, _⟩ := each i hi
        rw [add_plain] at c0 c1
        exact ⟨rfl, hb, c0, c1⟩
end Go.Proofs.Qxb6601254a
