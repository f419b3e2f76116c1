import Derived.Test.Qxb6601254aWalksE
namespace Go.Proofs.Qxb6601254a
open Go.RowKit

set_option maxHeartbeats 400000 in
theorem withLast_any (ao : Option Addr) (cap : Nat) (ps : Pats) (action path : ByteArray) (hm : ps.length ≤ 1048576) (ha : action.size ≤ maxLen) (hp : path.size ≤ maxLen) (w : World) (h : IsPats w ao ps) :
    Calls Try.prog 22 #[.slice ao ps.length cap, .string action, .string path] w fun e w' => e = .returned (.slice (some ⟨w.heap.size, 0, none⟩) (ps.length + 1) (ps.length + 1)) ∧ IsPats w' (some ⟨w.heap.size, 0, none⟩) (ps ++ [(L action, L path)]) ∧ Below w.heap.size w w' := by
  obtain ⟨hsz, b, off, hb, hc⟩ := h
  have hmk := make_row41 (ps.length + 1) (by omega)
  have ec : ((ps.length + 1 : Nat) : Int) = (ps.length : Int) + 1 := by omega
  rw [ec] at hmk
  clear ec
  have hlast : Hid ((ps ++ [(L action, L path)])[ps.length]? = some (L action, L path)) := by simp [Hid]
  have hold : Hid (∀ (k : Nat) (q : Pl.Pt), ps[k]? = some q → (ps ++ [(L action, L path)])[k]? = some q) := by
    intro k q hq
    obtain ⟨hk, _⟩ := List.getElem?_eq_some_iff.1 hq
    rw [List.getElem?_append_left hk]; exact hq
  have hsz2 : Hid (∀ q ∈ ps ++ [(L action, L path)], q.1.length ≤ maxLen ∧ q.2.length ≤ maxLen) := by
    intro q hq
    rcases List.mem_append.1 hq with hq | hq
    · exact hsz q hq
    · simp at hq; subst hq; exact ⟨by rw [L_len]; exact ha, by rw [L_len]; exact hp⟩
  obtain ⟨p2, hp2⟩ : ∃ p2 : Pats, p2 = ps ++ [(L action, L path)] := ⟨_, rfl⟩
  have hl2 : Hid (p2.length = ps.length + 1) := by rw [hp2]; simp [Hid]
  rw [← hp2] at hlast hold hsz2 ⊢
  clear hp2
  go_enter Try.func22, Try.ntmps22
  go_wp2
  go_loopw [8] (fun i wr => ∃ k : Nat, k ≤ ps.length ∧ i = .int .i64 k ∧ wr.rowIs w.heap.size 41 ((ps.length + 1) * 2) (patCell p2 k) ∧ Below w.heap.size w wr) (fun i _ => ps.length - (intOf i).toNat)
  case atStart => exact ⟨0, Nat.zero_le _, rfl, emptyRow_is w p2 _, (Below.refl _ _).alloc (Nat.le_refl _) _⟩
  case round =>
    obtain ⟨k, hk, rfl, hrow, hbel⟩ := hrel
    by_cases hlt : k < ps.length
    · obtain ⟨⟨a, p⟩, hq⟩ : ∃ q, ps[k]? = some q := ⟨ps[k], List.getElem?_eq_getElem hlt⟩
      obtain ⟨rfl, hb', hc0, hc1⟩ := hc k _ hq
      have HQ : Hid (p2[k]? = some (a, p)) := hold.out _ _ hq
      clear hc hsz hq
      simp only [] at hc0 hc1
      have d0 := (hbel.cell (p := ⟨b, off + k * 2, none⟩) hb').trans hc0
      have d1 := (hbel.cell (p := ⟨b, off + k * 2 + 1, none⟩) hb').trans hc1
      have e0 := hrow.cell (i := k * 2) (by omega)
      have e1 := hrow.cell (i := k * 2 + 1) (by omega)
      have f0 := hrow.frozen (k * 2)
      have f1 := hrow.frozen (k * 2 + 1)
      clear hc0 hc1
      go_wp2
      go_region
      all_goals go_wp2
      go_roundw
      case rel => exact ⟨k + 1, by omega, by go_num, ((hrow.set _ _).set _ _).congr (fun j _ => patCell_next p2 k a p HQ.out j), ((hbel.setCell (p := ⟨w.heap.size, _, none⟩) (Nat.le_refl _) _).setCell (p := ⟨w.heap.size, _, none⟩) (Nat.le_refl _) _).drew⟩
      case measure => simp [intOf]; omega
    · have hks : k = ps.length := by omega
      subst hks
      have e0 := hrow.cell (i := ps.length * 2) (by omega)
      have e1 := hrow.cell (i := ps.length * 2 + 1) (by omega)
      have f0 := hrow.frozen (ps.length * 2)
      have f1 := hrow.frozen (ps.length * 2 + 1)
      go_wp2
      go_ret
      refine ⟨rfl, pats_of_row hsz2.out ?_, (hbel.setCell (p := ⟨w.heap.size, _, none⟩) (Nat.le_refl _) _).setCell (p := ⟨w.heap.size, _, none⟩) (Nat.le_refl _) _⟩
      rw [hl2.out]
      exact ((hrow.set _ _).set _ _).congr (fun j _ => by rw [← patCell_next p2 ps.length _ _ hlast.out j, S_L, S_L])

theorem inc_len (ao : Option Addr) (n cap : Nat) (ps : Pats) (path : ByteArray) (hn : n = ps.length) (hm : n ≤ maxLen) (hp : path.size ≤ maxLen) (w : World) (h : IsPats w ao ps) :
    Calls Try.prog 19 #[.slice ao n cap, .string path] w fun e w' => e = .returned (.bool (Pl.inc ps (L path))) ∧ w' = w := by
  subst hn
  exact inc_any ao cap ps path hm hp w h
end Go.Proofs.Qxb6601254a
