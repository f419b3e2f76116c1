/-
  FROM THE READING OF AN ARGUMENT THAT IS A SLICE OF STRINGS OR OF NUMBERS TO 'IsStrs', 'IsNums'.
-/
import Derived.Test.Qxb6000524aWalksA
import Derived.SliceStrings
import Derived.OpenShut
namespace Go.Proofs.Qxb6000524a
open Go.ChangeShapes Go.WideShapes Go.ChangeAt Go.RowKit

theorem open_nums {H : Type} {enc : TypeId × Value → H} {W : World} {fuel : Nat} {a : Option Addr} {len cap : Nat} {x : DataW H × List MemPlace} {t e : TypeId} {q : IntKind}
    (ht : Try.prog.underlying t = some (.slice e)) (he : Try.prog.underlying e = some (.int q)) (hc : Try.prog.cellsOf e = 1)
    (h : DataW.trod enc Try.prog W 0 (fun _ => true) true fuel t [.slice a len cap] = some x) : ∃ zs : List Int, zs.length = len ∧ zs.length ≤ maxLen ∧ IsNums W q a zs := by
  rcases open_ints ht he hc h with ⟨hcs, _⟩ | ⟨y, l, c, zs, hcs, _, hl, hm, hz, _, hcell, hwz⟩
  · simp at hcs
    obtain ⟨rfl, rfl, rfl⟩ := hcs
    exact ⟨[], rfl, by simp, ⟨by simp, 0, 0, by simp⟩⟩
  · simp at hcs
    obtain ⟨rfl, rfl, rfl⟩ := hcs
    have hz' : zs.length = cap := by simpa using hz
    refine ⟨zs.take len, by rw [List.length_take]; omega, by rw [List.length_take]; omega, fun z hzz => hwz z (List.mem_of_mem_take hzz), ?_⟩
    by_cases h0 : len = 0
    · subst h0
      exact ⟨0, 0, by simp⟩
    · obtain ⟨b, off, spot⟩ := y
      have hzero := hcell 0 (by omega)
      have hspot : spot = none := by simpa [Addr.add] using World.cell?_spot hzero
      subst hspot
      have hb : b < W.heap.size := by simpa [Addr.add] using World.block_lt_of_cell? _ _ hzero
      refine ⟨b, off, fun i z hi => ?_⟩
      obtain ⟨hlt, hv⟩ := List.getElem?_eq_some_iff.1 hi
      rw [List.length_take] at hlt
      have hci := hcell i (by omega)
      rw [add_plain] at hci
      have hg : zs.getD i 0 = z := by
        rw [List.getElem_take] at hv
        rw [List.getD_eq_getElem?_getD, List.getElem?_eq_getElem (by omega), hv]
        rfl
      rw [hg] at hci
      exact ⟨rfl, hb, hci⟩

theorem open_strs {H : Type} {enc : TypeId × Value → H} {W : World} {fuel : Nat} {a : Option Addr} {len cap : Nat} {x : DataW H × List MemPlace}
    (h : DataW.trod enc Try.prog W 0 (fun _ => true) true fuel 22 [.slice a len cap] = some x) : ∃ ss : List (List UInt8), ss.length = len ∧ ss.length ≤ maxLen ∧ IsStrs W a ss := by
  rcases open_strings Try.underlying22 Try.underlying9 (by kernel_rfl) h with ⟨hcs, _⟩ | ⟨y, l, c, ss, hcs, _, hl, hm, hz, _, hcell, hws⟩
  · simp at hcs
    obtain ⟨rfl, rfl, rfl⟩ := hcs
    exact ⟨[], rfl, by simp, ⟨by simp, 0, 0, by simp⟩⟩
  · simp at hcs
    obtain ⟨rfl, rfl, rfl⟩ := hcs
    have hz' : ss.length = cap := by simpa using hz
    refine ⟨(ss.take len).map L, by rw [List.length_map, List.length_take]; omega, by rw [List.length_map, List.length_take]; omega, ?_, ?_⟩
    · intro s hs
      obtain ⟨y, hy, rfl⟩ := List.mem_map.1 hs
      rw [L_len]
      exact hws y (List.mem_of_mem_take hy)
    by_cases h0 : len = 0
    · subst h0
      exact ⟨0, 0, by simp⟩
    · obtain ⟨b, off, spot⟩ := y
      have hzero := hcell 0 (by omega)
      have hspot : spot = none := by simpa [Addr.add] using World.cell?_spot hzero
      subst hspot
      have hb : b < W.heap.size := by simpa [Addr.add] using World.block_lt_of_cell? _ _ hzero
      refine ⟨b, off, fun i z hi => ?_⟩
      obtain ⟨hlt, hv⟩ := List.getElem?_eq_some_iff.1 hi
      rw [List.length_map, List.length_take] at hlt
      have hci := hcell i (by omega)
      rw [add_plain] at hci
      have hg : Value.string (ss.getD i ByteArray.empty) = Value.string (S z) := by
        rw [List.getElem_map, List.getElem_take] at hv
        rw [List.getD_eq_getElem?_getD, List.getElem?_eq_getElem (by omega), ← hv, S_L]
        rfl
      rw [hg] at hci
      exact ⟨rfl, hb, hci⟩
end Go.Proofs.Qxb6000524a
