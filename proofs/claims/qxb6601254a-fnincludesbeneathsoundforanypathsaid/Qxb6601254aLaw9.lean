import Derived.Test.Qxb6601254aWalksD
namespace Go.Proofs.Qxb6601254a
open Go.RowKit

set_option maxHeartbeats 400000 in
theorem law9 (ao : Option Addr) (cap : Nat) (ps : Pats) (dir q : ByteArray) (hm : ps.length ≤ maxLen) (hdir : dir.size ≤ maxLen) (hq : q.size ≤ maxLen) (w : World) (h : IsPats w ao ps) :
    Calls Try.prog 9 #[.slice ao ps.length cap, .string dir, .string q] w fun e w' => e = .returned (.bool true) ∧ Below w.heap.size w w' := by
  have hm' := hm
  unfold maxLen at hm'
  go_enter Try.func9, Try.ntmps9
  go_wp2_with fail
  refine (zz27_any ao cap ps dir q hm hdir hq _ h).mono ?_
  rintro e w' ⟨r, rfl, rfl, hr⟩
  cases r with
  | false =>
    clear hr
    go_wp2
    go_ret
    exact ⟨rfl, Below.refl _ _⟩
  | true =>
    obtain ⟨hsm, hlen, hall⟩ := hr rfl
    have hd2 : dir.size ≤ 1048576 := hall dir (by simp)
    have hq2 : q.size ≤ 1048576 := hall q (by simp)
    clear hr hall
    by_cases h12 : ps.length ≤ 4096
    · go_wp2_with fail
      refine (patBytes_any ao cap ps hm _ h).mono ?_
      rintro e w2 ⟨n, rfl, hn0, hn1, rfl⟩
      by_cases hneg : n < 0
      · go_wp2
        go_ret
        exact ⟨rfl, Below.refl _ _⟩
      · by_cases hbig : n + dir.size + q.size ≤ 1048576
        · go_wp2_with fail
          refine (benM_any q dir (by omega) (by omega) _).mono ?_
          rintro e w3 ⟨rfl, hb3⟩
          by_cases hben : Pl.ben (L q) (L dir) = true
          · have HB : Hid (Pl.ben (L q) (L dir) = true) := hben
            clear hben
            rw [HB.out]
            have h3 := h.below hb3 (Nat.le_refl _)
            go_wp2_with fail
            refine (toList_any ao cap ps (by omega) _ h3).mono ?_
            rintro e w4 ⟨rfl, h4, hb4⟩
            have hb4' := hb3.trans (hb4.mono hb3.size)
            go_wp2_with fail
            refine (inc_any _ _ ps q hm hq _ h4).mono ?_
            rintro e w5 ⟨rfl, rfl⟩
            by_cases hin : Pl.inc ps (L q) = true
            · have HE : Hid (Pl.incB ps (L dir) = true) := Pl.sound ps (L dir) (L q) HB.out hin
              rw [hin]
              clear hin
              go_wp2_with fail
              refine (incB_any _ _ ps dir hm hdir _ h4).mono ?_
              rintro e w6 ⟨rfl, hb6⟩
              rw [HE.out]
              go_wp2
              go_ret
              exact ⟨rfl, hb4'.trans (hb6.mono hb4'.size)⟩
            · have HE : Hid (Pl.inc ps (L q) = false) := by simpa [Hid] using hin
              rw [HE.out]
              clear hin
              go_wp2
              go_ret
              exact ⟨rfl, hb4'⟩
          · have HB : Hid (Pl.ben (L q) (L dir) = false) := by simpa [Hid] using hben
            rw [HB.out]
            clear hben
            go_wp2
            go_ret
            exact ⟨rfl, hb3⟩
        · go_wp2
          go_ret
          exact ⟨rfl, Below.refl _ _⟩
    · go_wp2
      go_ret
      exact ⟨rfl, Below.refl _ _⟩
end Go.Proofs.Qxb6601254a
