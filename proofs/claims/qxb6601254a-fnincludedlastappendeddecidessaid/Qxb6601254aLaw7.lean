import Derived.Test.Qxb6601254aWalksF
namespace Go.Proofs.Qxb6601254a
open Go.RowKit

set_option maxHeartbeats 800000 in
theorem law7 (ao : Option Addr) (cap : Nat) (ps : Pats) (action ppath path : ByteArray) (hm : ps.length ≤ maxLen) (haction : action.size ≤ maxLen) (hppath : ppath.size ≤ maxLen) (hpath : path.size ≤ maxLen) (w : World) (h : IsPats w ao ps) :
    Calls Try.prog 7 #[.slice ao ps.length cap, .string action, .string ppath, .string path] w fun e w' => e = .returned (.bool true) ∧ Below w.heap.size w w' := by
  have hm' := hm
  unfold maxLen at hm'
  go_enter Try.func7, Try.ntmps7
  go_wp2_with fail
  refine (zz21_any ao cap ps action ppath path hm haction hppath hpath _ h).mono ?_
  rintro e w' ⟨r, rfl, rfl, hr⟩
  cases r with
  | false =>
    clear hr
    go_wp2
    go_ret
    exact ⟨rfl, Below.refl _ _⟩
  | true =>
    obtain ⟨hsm, hlen, hall⟩ := hr rfl
    have hd1 : action.size ≤ 1048576 := hall action (by simp)
    have hd2 : ppath.size ≤ 1048576 := hall ppath (by simp)
    have hd3 : path.size ≤ 1048576 := hall path (by simp)
    clear hr hall
    by_cases h12 : ps.length ≤ 65536
    · go_wp2_with fail
      refine (patBytes_any ao cap ps hm _ h).mono ?_
      rintro e w2 ⟨n, rfl, hn0, hn1, rfl⟩
      by_cases hneg : n < 0
      · go_wp2
        go_ret
        exact ⟨rfl, Below.refl _ _⟩
      · by_cases hbig : n + 32 + action.size + ppath.size + path.size ≤ 1048576
        · go_wp2_with fail
          refine (toList_any ao cap ps (by omega) _ h).mono ?_
          rintro e w4 ⟨rfl, h4, hb4⟩
          have h5 := h.below hb4 (Nat.le_refl _)
          go_wp2_with fail
          refine (withLast_any ao cap ps action ppath (by omega) haction hppath _ h5).mono ?_
          rintro e w5 ⟨rfl, h6, hb5⟩
          have h7 := h4.below hb5 (Nat.le_refl _)
          have hb5' := hb4.trans (hb5.mono hb4.size)
          by_cases hmt : Pl.mat (L path) (L ppath) = true
          · have HM : Hid (Pl.mat (L path) (L ppath) = true) := hmt
            have HE : Hid (Pl.inc (ps ++ [(L action, L ppath)]) (L path) = (action.toList == [43])) := by
              show _ = _
              rw [Pl.inc_snoc, hmt, toList_L]
              by_cases hh : L action = [43] <;> simp [hh]
            clear hmt
            go_wp2_with fail
            refine (inc_len _ _ _ (ps ++ [(L action, L ppath)]) path (by simp) (by unfold maxLen; omega) hpath _ h6).mono ?_
            rintro e w6 ⟨rfl, rfl⟩
            rw [HE.out]
            go_wp2_with fail
            refine (matM_any path ppath (by omega) (by omega) _).mono ?_
            rintro e w7 ⟨rfl, hb7⟩
            rw [HM.out]
            go_wp2
            go_ret
            exact ⟨ret_bool (by simp), hb5'.trans (hb7.mono hb5'.size)⟩
          · have HM : Hid (Pl.mat (L path) (L ppath) = false) := by simpa [Hid] using hmt
            have HE : Hid (Pl.inc (ps ++ [(L action, L ppath)]) (L path) = Pl.inc ps (L path)) := by
              show _ = _
              rw [Pl.inc_snoc, HM.out]
              rfl
            clear hmt
            go_wp2_with fail
            refine (inc_len _ _ _ (ps ++ [(L action, L ppath)]) path (by simp) (by unfold maxLen; omega) hpath _ h6).mono ?_
            rintro e w6 ⟨rfl, rfl⟩
            rw [HE.out]
            go_wp2_with fail
            refine (matM_any path ppath (by omega) (by omega) _).mono ?_
            rintro e w7 ⟨rfl, hb7⟩
            rw [HM.out]
            have h8 := h7.below hb7 (Nat.le_refl _)
            go_wp2_with fail
            refine (inc_any _ _ ps path hm hpath _ h8).mono ?_
            rintro e w8 ⟨rfl, rfl⟩
            go_wp2
            go_ret
            exact ⟨ret_bool (by simp), hb5'.trans (hb7.mono hb5'.size)⟩
        · go_wp2
          go_ret
          exact ⟨rfl, Below.refl _ _⟩
    · go_wp2
      go_ret
      exact ⟨rfl, Below.refl _ _⟩
end Go.Proofs.Qxb6601254a
