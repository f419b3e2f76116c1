import Derived.Test.Qxb6601254aWalksB
namespace Go.Proofs.Qxb6601254a
open Go.RowKit

theorem info41 : (Try.prog.info? 41).map (fun i => (i.zero, i.size, i.bytes)) = some (some (.agg #[.string ByteArray.empty, .string ByteArray.empty]), 2, 32) := by kernel_rfl

def emptyRow (n : Nat) : Array Value := madeCells #[.string ByteArray.empty, .string ByteArray.empty] n

theorem make_row41 (n : Nat) (h : n ≤ 1048577) (w : World) :
    (Instr.makeSlice 28 (.int .i64 (n : Int)) (.int .i64 (n : Int))).run Try.prog w = .ok (.slice (some ⟨w.heap.size, 0, none⟩) n n) (w.alloc (.cells (emptyRow (n * 2)) 41)) := by
  obtain ⟨i, hi, hzz⟩ := Option.map_eq_some_iff.1 info41
  simp only [Prod.mk.injEq] at hzz
  obtain ⟨hz, hs, hb⟩ := hzz
  have hr := run_make (P := Try.prog) w 28 41 i _ Try.underlying28 hi hz .i64 .i64 n n (by omega) (Int.le_refl _) (by rw [hb]; omega) (by omega)
  simp only [Int.toNat_natCast, hs] at hr
  exact hr

/-- What the row that toList fills holds when k patterns have been laid. -/
def patCell (ps : Pats) (k j : Nat) : Value :=
  if j < k * 2 then (if j % 2 = 0 then .string (S (ps.getD (j / 2) ([], [])).1) else .string (S (ps.getD (j / 2) ([], [])).2)) else .string ByteArray.empty

theorem emptyRow_is (w : World) (ps : Pats) (n : Nat) : (w.alloc (.cells (emptyRow n) 41)).rowIs w.heap.size 41 n (patCell ps 0) := by
  have h := World.rowIs_alloc w (emptyRow n) 41 (patCell ps 0) (fun i hi => by
    have hi' : i < n := by simpa [emptyRow, size_madeCells] using hi
    have h2 : i % 2 = 0 ∨ i % 2 = 1 := by omega
    rcases h2 with h2 | h2 <;> simp [emptyRow, madeCells, patCell, hi', h2])
  have e : (emptyRow n).size = n := size_madeCells _ _
  rw [e] at h
  exact h

theorem patCell_next (ps : Pats) (k : Nat) (a p : List UInt8) (hq : ps[k]? = some (a, p)) (j : Nat) :
    (if j = k * 2 + 1 then .string (S p) else if j = k * 2 then .string (S a) else patCell ps k j) = patCell ps (k + 1) j := by
  unfold patCell
  by_cases h1 : j = k * 2 + 1
  · subst h1
    have e1 : (k * 2 + 1) / 2 = k := by omega
    have e2 : ¬ (k * 2 + 1) % 2 = 0 := by omega
    rw [if_pos rfl, if_pos (by omega), if_neg e2, e1]
    simp [hq]
  · rw [if_neg h1]
    by_cases h2 : j = k * 2
    · subst h2
      have e1 : k * 2 / 2 = k := by omega
      have e2 : k * 2 % 2 = 0 := by omega
      rw [if_pos rfl, if_pos (by omega), if_pos e2, e1]
      simp [hq]
    · rw [if_neg h2]
      by_cases h3 : j < k * 2
      · have h4 : j < (k + 1) * 2 := by omega
        rw [if_pos h3, if_pos h4]
      · rw [if_neg h3, if_neg (by omega)]

theorem pats_of_row {w : World} {B : Nat} {ps : Pats} (hsz : ∀ q ∈ ps, q.1.length ≤ maxLen ∧ q.2.length ≤ maxLen) (h : w.rowIs B 41 (ps.length * 2) (patCell ps ps.length)) : IsPats w (some ⟨B, 0, none⟩) ps := by
  refine ⟨hsz, B, 0, Nat.le_of_lt h.lt, fun i q hq => ⟨rfl, h.lt, ?_, ?_⟩⟩
  · obtain ⟨hi, hv⟩ := List.getElem?_eq_some_iff.1 hq
    have := h.cell (i := i * 2) (by omega)
    have e1 : i * 2 / 2 = i := by omega
    have e2 : i * 2 % 2 = 0 := by omega
    rw [patCell, if_pos (by omega), if_pos e2, e1] at this
    simpa [hq] using this
  · obtain ⟨hi, hv⟩ := List.getElem?_eq_some_iff.1 hq
    have := h.cell (i := i * 2 + 1) (by omega)
    have e1 : (i * 2 + 1) / 2 = i := by omega
    have e2 : ¬ (i * 2 + 1) % 2 = 0 := by omega
    rw [patCell, if_pos (by omega), if_neg e2, e1] at this
    simpa [hq] using this

set_option maxHeartbeats 400000 in
theorem toList_any (ao : Option Addr) (cap : Nat) (ps : Pats) (hm : ps.length ≤ 1048576) (w : World) (h : IsPats w ao ps) :
    Calls Try.prog 18 #[.slice ao ps.length cap] w fun e w' => e = .returned (.slice (some ⟨w.heap.size, 0, none⟩) ps.length ps.length) ∧ IsPats w' (some ⟨w.heap.size, 0, none⟩) ps ∧ Below w.heap.size w w' := by
  obtain ⟨hsz, b, off, hb, hc⟩ := h
  have hmk := make_row41 ps.length (by omega)
  go_enter Try.func18, Try.ntmps18
  go_wp2
  go_loopw [4] (fun i wr => ∃ k : Nat, k ≤ ps.length ∧ i = .int .i64 k ∧ wr.rowIs w.heap.size 41 (ps.length * 2) (patCell ps k) ∧ Below w.heap.size w wr) (fun i _ => ps.length - (intOf i).toNat)
  case atStart => exact ⟨0, Nat.zero_le _, rfl, emptyRow_is w ps _, (Below.refl _ _).alloc (Nat.le_refl _) _⟩
  case round =>
    obtain ⟨k, hk, rfl, hrow, hbel⟩ := hrel
    by_cases hlt : k < ps.length
    · obtain ⟨⟨a, p⟩, hq⟩ : ∃ q, ps[k]? = some q := ⟨ps[k], List.getElem?_eq_getElem hlt⟩
      obtain ⟨rfl, hb', hc0, hc1⟩ := hc k _ hq
      have HQ : Hid (ps[k]? = some (a, p)) := hq
      clear hc hsz hq
      simp only [] at hc0 hc1
      have d0 := (hbel.cell (p := ⟨b, off + k * 2, none⟩) hb').trans hc0
      have d1 := (hbel.cell (p := ⟨b, off + k * 2 + 1, none⟩) hb').trans hc1
      have e0 := hrow.cell (i := k * 2) (by omega)
      have e1 := hrow.cell (i := k * 2 + 1) (by omega)
      have f0 := hrow.frozen (k * 2)
      have f1 := hrow.frozen (k * 2 + 1)
      clear hc0 hc1
      go_wp2
      go_region
      all_goals go_wp2
      go_roundw
      case rel => exact ⟨k + 1, by omega, by go_num, ((hrow.set _ _).set _ _).congr (fun j _ => patCell_next ps k a p HQ.out j), ((hbel.setCell (p := ⟨w.heap.size, _, none⟩) (Nat.le_refl _) _).setCell (p := ⟨w.heap.size, _, none⟩) (Nat.le_refl _) _).drew⟩
      case measure => simp [intOf]; omega
    · have hks : k = ps.length := by omega
      subst hks
      go_wp2
      go_ret
      exact ⟨rfl, pats_of_row hsz hrow, hbel⟩
end Go.Proofs.Qxb6601254a
