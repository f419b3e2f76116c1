import Derived.Test.Qxb6601254aWalksG
namespace Go.Proofs.Qxb6601254a
open Go.RowKit

/-- The longest path of ps. -/
def maxP (ps : Pats) : Nat := ps.foldl (fun m q => max m q.2.length) 0

theorem maxP_next {ps : Pats} {k : Nat} {q : Pl.Pt} (hq : ps[k]? = some q) : maxP (ps.take (k + 1)) = max (maxP (ps.take k)) q.2.length := by
  unfold maxP
  rw [List.take_add_one, hq, List.foldl_append]
  rfl

theorem maxP_bd {ps : Pats} (h : Small ps) (k : Nat) : maxP (ps.take k) ≤ 1048576 := by
  induction k with
  | zero => simp [maxP]
  | succ k ih =>
    cases hq : ps[k]? with
    | none =>
      rw [List.take_add_one, hq]
      simpa using ih
    | some q =>
      rw [maxP_next hq]
      have := (h q (List.mem_of_getElem? hq)).2
      omega

theorem le_maxP {ps : Pats} (k : Nat) : ∀ q ∈ ps.take k, q.2.length ≤ maxP (ps.take k) := by
  induction k with
  | zero => intro q hq; simp at hq
  | succ k ih =>
    cases hk : ps[k]? with
    | none =>
      have e : ps.take (k + 1) = ps.take k := by rw [List.take_add_one, hk]; simp
      rw [e]
      exact ih
    | some x =>
      intro q hq
      rw [maxP_next hk]
      rw [List.take_add_one, hk] at hq
      rcases List.mem_append.1 hq with hq | hq
      · have := ih q hq; omega
      · simp at hq; subst hq; omega

theorem fresh_at (dir : ByteArray) (m : Int) (n : Nat) (e : m = (n : Int)) (hn : n ≤ 1048577) (hd : dir.size ≤ 1048576) (w : World) :
    Calls Try.prog 25 #[.string dir, .int .i64 m] w fun e w' => ∃ q, e = .returned (.string q) ∧ L q = Pl.fresh (L dir) n ∧ Below w.heap.size w w' := by
  subst e
  exact fresh_any dir n hn hd w

theorem fresh_size {q dir : ByteArray} {n : Nat} (h : L q = Pl.fresh (L dir) n) : q.size ≤ dir.size + 1 + n := by
  rw [← L_len, h, ← L_len dir, Pl.fresh]
  split <;> simp <;> omega

set_option maxHeartbeats 800000 in
theorem law8 (ao : Option Addr) (cap : Nat) (ps : Pats) (dir : ByteArray) (hm : ps.length ≤ maxLen) (hdir : dir.size ≤ maxLen) (w : World) (h : IsPats w ao ps) :
    Calls Try.prog 8 #[.slice ao ps.length cap, .string dir] w fun e w' => e = .returned (.bool true) ∧ Below w.heap.size w w' := by
  have hm' := hm
  unfold maxLen at hm'
  go_enter Try.func8, Try.ntmps8
  go_wp2_with fail
  refine (zz24_any ao cap ps dir hm hdir _ h).mono ?_
  rintro e w' ⟨r, rfl, rfl, hr⟩
  cases r with
  | false =>
    clear hr
    go_wp2
    go_ret
    exact ⟨rfl, Below.refl _ _⟩
  | true =>
    obtain ⟨hsm, hlen, hall⟩ := hr rfl
    have hd2 : dir.size ≤ 1048576 := hall dir (by simp)
    clear hr hall
    by_cases h12 : ps.length ≤ 4096
    · go_wp2_with fail
      refine (patBytes_any ao cap ps hm _ h).mono ?_
      rintro e w2 ⟨n, rfl, hn0, hn1, rfl⟩
      by_cases hneg : n < 0
      · go_wp2
        go_ret
        exact ⟨rfl, Below.refl _ _⟩
      · by_cases hbig : n + dir.size ≤ 1048576
        · have hg1 : decide (n < 0) = false := by simp; omega
          have hg2 : decide (1048576 < n + (dir.size : Int)) = false := by simp; omega
          have hg3 : decide (1048576 < (dir.size : Int)) = false := by simp; omega
          have hg4 : decide ((4096 : Int) < (ps.length : Int)) = false := by simp; omega
          go_wp2
          go_loop [6, 7] (fun t i => ∃ k : Nat, k ≤ ps.length ∧ i = .int .i64 k ∧ t = .int .i64 (maxP (ps.take k) : Nat)) (fun _ i => ps.length - (intOf i).toNat)
          case atStart => exact ⟨0, Nat.zero_le _, rfl, rfl⟩
          case round =>
            obtain ⟨k, hk, rfl, rfl⟩ := hrel
            have hmb := maxP_bd hsm k
            by_cases hlt : k < ps.length
            · obtain ⟨⟨a, p⟩, hq⟩ : ∃ q, ps[k]? = some q := ⟨ps[k], List.getElem?_eq_getElem hlt⟩
              have hP2 := h
              obtain ⟨hsz, b, off, hb, hc⟩ := hP2
              obtain ⟨rfl, hb', hc0, hc1⟩ := hc k _ hq
              obtain ⟨hs0, hs1⟩ := hsm _ (List.mem_of_getElem? hq)
              have HQ : Hid (maxP (ps.take (k + 1)) = max (maxP (ps.take k)) p.length) := maxP_next hq
              simp only [] at hs0 hs1 hc0 hc1
              have hsp := S_size p
              have HS : Hid ((S p).size = p.length) := hsp
              have hsp2 : (S p).size ≤ 1048576 := by omega
              clear hc hsz hq hsp
              go_wp2
              · have hgt : maxP (ps.take k) < (S p).size := by assumption
                go_round
                case rel => exact ⟨k + 1, by omega, by go_num, by rw [HQ.out, ← HS.out, Nat.max_eq_right (Nat.le_of_lt hgt)]⟩
                case measure => simp [intOf]; omega
              · have hgt : ¬ maxP (ps.take k) < (S p).size := by assumption
                go_round
                case rel => exact ⟨k + 1, by omega, by go_num, by rw [HQ.out, ← HS.out, Nat.max_eq_left (by omega)]⟩
                case measure => simp [intOf]; omega
            · have hks : k = ps.length := by omega
              subst hks
              rw [List.take_length] at hmb ⊢
              have HL : Hid (∀ q ∈ ps, q.2.length < maxP ps + 1) := by
                intro q hq
                have := le_maxP ps.length q (by rw [List.take_length]; exact hq)
                rw [List.take_length] at this
                omega
              go_wp2_with fail
              refine (fresh_at dir _ (maxP ps + 1) (by omega) (by omega) hd2 _).mono ?_
              rintro e w3 ⟨q, rfl, hq, hb3⟩
              have hqs := fresh_size hq
              have HI : Hid (Pl.inc ps (L q) = Pl.want ps (L dir) 0) := by show _ = _; rw [hq, Pl.inc_fresh ps _ _ HL.out, Pl.want_zero]
              clear hq HL
              have h3 := h.below hb3 (Nat.le_refl _)
              go_wp2_with fail
              refine (incM_any ao cap ps q hm hsm (by omega) _ h3).mono ?_
              rintro e w4 ⟨rfl, hb4⟩
              rw [HI.out]
              have hb4' := hb3.trans (hb4.mono hb3.size)
              clear h3 hqs hb3 hb4 HI hmb
              go_wp2
              go_loopw [8, 9] (fun v i wr => ∃ k : Nat, k ≤ ps.length ∧ i = .int .i64 k ∧ v = .bool (Pl.want ps (L dir) k) ∧ Below w2.heap.size w2 wr) (fun _ i _ => ps.length - (intOf i).toNat)
              case atStart => exact ⟨0, Nat.zero_le _, rfl, rfl, hb4'⟩
              case round =>
                clear hb4' hk
                obtain ⟨k, hk, rfl, rfl, hbel⟩ := hrel
                have hP := h.below hbel (Nat.le_refl _)
                by_cases hgo : k < ps.length ∧ Pl.want ps (L dir) k = false
                · obtain ⟨hlt, hw⟩ := hgo
                  obtain ⟨⟨a, p⟩, hq⟩ : ∃ q, ps[k]? = some q := ⟨ps[k], List.getElem?_eq_getElem hlt⟩
                  have hP2 := hP
                  obtain ⟨hsz, b, off, hb, hc⟩ := hP2
                  obtain ⟨rfl, hb', hc0, hc1⟩ := hc k _ hq
                  obtain ⟨hs0, hs1⟩ := hsm _ (List.mem_of_getElem? hq)
                  simp only [] at hs0 hs1 hc0 hc1
                  have hsp2 : (S p).size ≤ 1099511627776 := by rw [S_size]; omega
                  have HN : Hid (Pl.want ps (L dir) (k + 1) = (Pl.ben p (L dir) && Pl.inc ps p)) := by
                    show _ = _
                    rw [Pl.want_next ps _ k _ hq, hw]; rfl
                  rw [hw]
                  clear hc hsz hq hw
                  go_wp2_with fail
                  refine (benM_any (S p) dir hsp2 (by omega) _).mono ?_
                  rintro e w5 ⟨rfl, hb5⟩
                  rw [L_S]
                  have d1 := (hb5.cell (p := ⟨b, off + k * 2 + 1, none⟩) hb').trans hc1
                  have hP5 := hP.below hb5 (Nat.le_refl _)
                  have hbel5 := hbel.trans (hb5.mono hbel.size)
                  by_cases hbn : Pl.ben p (L dir) = true
                  · rw [hbn, Bool.true_and] at HN
                    rw [hbn]
                    clear hbn
                    go_wp2_with fail
                    refine (incM_any _ cap ps (S p) hm hsm hsp2 _ hP5).mono ?_
                    rintro e w6 ⟨rfl, hb6⟩
                    rw [L_S]
                    have hbel6 := hbel5.trans (hb6.mono hbel5.size)
                    by_cases hin : Pl.inc ps p = true
                    · rw [hin] at HN ⊢
                      clear hin
                      go_wp2
                      go_roundw
                      case rel => exact ⟨k + 1, by omega, by go_num, by rw [HN.out], hbel6⟩
                      case measure => simp [intOf]; omega
                    · have hif : Pl.inc ps p = false := by simpa using hin
                      rw [hif] at HN ⊢
                      clear hin hif
                      go_wp2
                      go_roundw
                      case rel => exact ⟨k + 1, by omega, by go_num, by rw [HN.out], hbel6⟩
                      case measure => simp [intOf]; omega
                  · have hbf : Pl.ben p (L dir) = false := by simpa using hbn
                    rw [hbf, Bool.false_and] at HN
                    rw [hbf]
                    clear hbn hbf
                    go_wp2
                    go_roundw
                    case rel => exact ⟨k + 1, by omega, by go_num, by rw [HN.out], hbel5⟩
                    case measure => simp [intOf]; omega
                · have HW : Hid (Pl.incB ps (L dir) = Pl.want ps (L dir) k) := by
                    show _ = _
                    by_cases hw : Pl.want ps (L dir) k = true
                    · rw [hw]; exact Pl.want_true ps _ k hw
                    · have hwf : Pl.want ps (L dir) k = false := by simpa using hw
                      have hkk : k = ps.length := by
                        by_cases hlt : k < ps.length
                        · exact absurd ⟨hlt, hwf⟩ hgo
                        · omega
                      rw [hwf]
                      rw [hkk] at hwf
                      exact Pl.want_all ps _ hwf
                  by_cases hlt : k < ps.length
                  · have hwt : Pl.want ps (L dir) k = true := by
                      by_cases hw : Pl.want ps (L dir) k = true
                      · exact hw
                      · exact absurd ⟨hlt, by simpa using hw⟩ hgo
                    rw [hwt] at HW ⊢
                    clear hgo hwt
                    go_wp2_with fail
                    refine (toList_any ao cap ps (by omega) _ hP).mono ?_
                    rintro e w5 ⟨rfl, h5, hb5⟩
                    go_wp2_with fail
                    refine (incB_any _ _ ps dir hm hdir _ h5).mono ?_
                    rintro e w6 ⟨rfl, hb6⟩
                    rw [HW.out]
                    have hb5' := hbel.trans (hb5.mono hbel.size)
                    go_wp2
                    go_ret
                    exact ⟨rfl, hb5'.trans (hb6.mono hb5'.size)⟩
                  · clear hgo
                    go_wp2_with fail
                    refine (toList_any ao cap ps (by omega) _ hP).mono ?_
                    rintro e w5 ⟨rfl, h5, hb5⟩
                    go_wp2_with fail
                    refine (incB_any _ _ ps dir hm hdir _ h5).mono ?_
                    rintro e w6 ⟨rfl, hb6⟩
                    rw [HW.out]
                    have hb5' := hbel.trans (hb5.mono hbel.size)
                    go_wp2
                    go_ret
                    exact ⟨ret_bool (by simp), hb5'.trans (hb6.mono hb5'.size)⟩
        · go_wp2
          go_ret
          exact ⟨rfl, Below.refl _ _⟩
    · go_wp2
      go_ret
      exact ⟨rfl, Below.refl _ _⟩
end Go.Proofs.Qxb6601254a
