import Derived.Test.Qxb6601254aWalksD
namespace Go.Proofs.Qxb6601254a
open Go.RowKit

theorem matM_any (p d : ByteArray) (hp : p.size ≤ 1099511627776) (hd : d.size ≤ 1099511627776) (w : World) :
    Calls Try.prog 23 #[.string p, .string d] w fun e w' => e = .returned (.bool (Pl.mat (L p) (L d))) ∧ Below w.heap.size w w' := by
  by_cases heq : L p = L d
  · have g : (p.toList == d.toList) = true := by rw [toList_L, toList_L, heq]; simp
    have HM : Hid (Pl.mat (L p) (L d) = true) := by simp [Pl.mat, heq, Hid]
    clear heq
    go_enter Try.func23, Try.ntmps23
    go_wp2
    go_ret
    exact ⟨ret_bool HM.out.symm, Below.refl _ _⟩
  · have g : (p.toList == d.toList) = false := by rw [toList_L, toList_L]; simpa using heq
    have HM : Hid (Pl.mat (L p) (L d) = Pl.ben (L p) (L d)) := by simp [Pl.mat, heq, Hid]
    clear heq
    go_enter Try.func23, Try.ntmps23
    go_wp2_with fail
    refine (benM_any p d hp hd _).mono ?_
    rintro e w1 ⟨rfl, hb⟩
    go_wp2
    go_ret
    exact ⟨ret_bool HM.out.symm, hb⟩

theorem inc_take {ps : Pats} {k : Nat} {q : Pl.Pt} (hq : ps[k]? = some q) (path : List UInt8) : Pl.inc (ps.take (k + 1)) path = if Pl.mat path q.2 then decide (q.1 = [43]) else Pl.inc (ps.take k) path := by
  rw [List.take_add_one, hq]
  exact Pl.inc_snoc _ q path

set_option maxHeartbeats 400000 in
theorem incM_any (ao : Option Addr) (cap : Nat) (ps : Pats) (path : ByteArray) (hm : ps.length ≤ maxLen) (hsm : Small ps) (hp : path.size ≤ 1099511627776) (w : World) (h : IsPats w ao ps) :
    Calls Try.prog 20 #[.slice ao ps.length cap, .string path] w fun e w' => e = .returned (.bool (Pl.inc ps (L path))) ∧ Below w.heap.size w w' := by
  have hm' := hm
  unfold maxLen at hm'
  go_enter Try.func20, Try.ntmps20
  go_wp2
  go_loopw [5, 6] (fun v i wr => ∃ k : Nat, k ≤ ps.length ∧ i = .int .i64 k ∧ v = .bool (Pl.inc (ps.take k) (L path)) ∧ Below w.heap.size w wr) (fun _ i _ => ps.length - (intOf i).toNat)
  case atStart => exact ⟨0, Nat.zero_le _, rfl, rfl, Below.refl _ _⟩
  case round =>
    obtain ⟨k, hk, rfl, rfl, hbel⟩ := hrel
    have hP := h.below hbel (Nat.le_refl _)
    by_cases hlt : k < ps.length
    · obtain ⟨⟨a, p⟩, hq⟩ : ∃ q, ps[k]? = some q := ⟨ps[k], List.getElem?_eq_getElem hlt⟩
      have hP2 := hP
      obtain ⟨hsz, b, off, hb, hc⟩ := hP2
      obtain ⟨rfl, hb', hc0, hc1⟩ := hc k _ hq
      obtain ⟨hs0, hs1⟩ := hsm _ (List.mem_of_getElem? hq)
      have HQ : Hid (ps[k]? = some (a, p)) := hq
      clear hc hsz hq h
      simp only [] at hs0 hs1 hc0 hc1
      have hsp : (S p).size ≤ 1099511627776 := by rw [S_size]; omega
      go_wp2_with fail
      refine (matM_any path (S p) hp hsp _).mono ?_
      rintro e w2 ⟨rfl, hb2⟩
      rw [L_S]
      have e0 := (hb2.cell (p := ⟨b, off + k * 2, none⟩) hb').trans hc0
      have hbel2 := hbel.trans (hb2.mono hbel.size)
      by_cases hmt : Pl.mat (L path) p = true
      · have HE : Hid (Pl.inc (ps.take (k + 1)) (L path) = decide (a = [43])) := by rw [inc_take HQ.out, hmt]; rfl
        rw [hmt]
        clear hmt
        go_wp2
        go_roundw
        case rel => exact ⟨k + 1, by omega, by go_num, by rw [HE.out, plus_eq], hbel2⟩
        case measure => simp [intOf]; omega
      · have hmf : Pl.mat (L path) p = false := by simpa using hmt
        have HE : Hid (Pl.inc (ps.take (k + 1)) (L path) = Pl.inc (ps.take k) (L path)) := by rw [inc_take HQ.out, hmf]; rfl
        rw [hmf]
        clear hmt hmf
        go_wp2
        go_roundw
        case rel => exact ⟨k + 1, by omega, by go_num, by rw [HE.out], hbel2⟩
        case measure => simp [intOf]; omega
    · have hks : k = ps.length := by omega
      subst hks
      rw [List.take_length]
      go_wp2
      go_ret
      exact ⟨rfl, hbel⟩
end Go.Proofs.Qxb6601254a
