import Derived.Test.Qxb6601254aWalksE
namespace Go.Proofs.Qxb6601254a
open Go.RowKit

set_option maxHeartbeats 400000 in
theorem law6 (ao : Option Addr) (cap : Nat) (ps : Pats) (path : ByteArray) (hm : ps.length ≤ maxLen) (hpath : path.size ≤ maxLen) (w : World) (h : IsPats w ao ps) :
    Calls Try.prog 6 #[.slice ao ps.length cap, .string path] w fun e w' => e = .returned (.bool true) ∧ Below w.heap.size w w' := by
  have hm' := hm
  unfold maxLen at hm'
  go_enter Try.func6, Try.ntmps6
  go_wp2_with fail
  refine (zz16_any ao cap ps path hm hpath _ h).mono ?_
  rintro e w' ⟨r, rfl, rfl, hr⟩
  cases r with
  | false =>
    clear hr
    go_wp2
    go_ret
    exact ⟨rfl, Below.refl _ _⟩
  | true =>
    obtain ⟨hsm, hlen, hall⟩ := hr rfl
    have hd2 : path.size ≤ 1048576 := hall path (by simp)
    clear hr hall
    by_cases h12 : ps.length ≤ 65536
    · go_wp2_with fail
      refine (patBytes_any ao cap ps hm _ h).mono ?_
      rintro e w2 ⟨n, rfl, hn0, hn1, rfl⟩
      by_cases hneg : n < 0
      · go_wp2
        go_ret
        exact ⟨rfl, Below.refl _ _⟩
      · by_cases hbig : n + path.size ≤ 1048576
        · go_wp2_with fail
          refine (toList_any ao cap ps (by omega) _ h).mono ?_
          rintro e w4 ⟨rfl, h4, hb4⟩
          have h5 := h.below hb4 (Nat.le_refl _)
          go_wp2_with fail
          refine (inc_any _ _ ps path hm hpath _ h4).mono ?_
          rintro e w5 ⟨rfl, rfl⟩
          go_wp2_with fail
          refine (incM_any ao cap ps path hm hsm (by omega) _ h5).mono ?_
          rintro e w6 ⟨rfl, hb6⟩
          go_wp2
          go_ret
          exact ⟨ret_bool (by simp), hb4.trans (hb6.mono hb4.size)⟩
        · go_wp2
          go_ret
          exact ⟨rfl, Below.refl _ _⟩
    · go_wp2
      go_ret
      exact ⟨rfl, Below.refl _ _⟩
end Go.Proofs.Qxb6601254a
