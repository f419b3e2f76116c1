import Derived.Test.Qxb6601254aWalksA
namespace Go.Proofs.Qxb6601254a
open Go.RowKit

theorem zz11_yes (p d : ByteArray) (h : p.size + d.size ≤ 1048576) (w : World) :
    Calls Try.prog 11 #[.string p, .string d] w fun e w' => e = .returned (.bool true) ∧ w' = w := by
  go_enter Try.func11, Try.ntmps11
  go_wp2
  go_ret
  exact ⟨rfl, rfl⟩

theorem zz11_no (p d : ByteArray) (hp : p.size ≤ maxLen) (hd : d.size ≤ maxLen) (h : ¬ p.size + d.size ≤ 1048576) (w : World) :
    Calls Try.prog 11 #[.string p, .string d] w fun e w' => e = .returned (.bool false) ∧ w' = w := by
  unfold maxLen at hp hd
  go_enter Try.func11, Try.ntmps11
  go_wp2
  all_goals (go_ret; exact ⟨rfl, rfl⟩)

theorem law3 (p d : ByteArray) (hp : p.size ≤ maxLen) (hd : d.size ≤ maxLen) (w : World) :
    Calls Try.prog 3 #[.string p, .string d] w fun e w' => e = .returned (.bool true) ∧ Below w.heap.size w w' := by
  by_cases h : p.size + d.size ≤ 1048576
  · go_enter Try.func3, Try.ntmps3
    go_wp2_with fail
    refine (zz11_yes p d h _).mono ?_
    rintro e w' ⟨rfl, rfl⟩
    go_wp2_with fail
    refine (zben_any p d hp hd _).mono ?_
    rintro e w' ⟨rfl, rfl⟩
    go_wp2_with fail
    refine (benM_any p d (by omega) (by omega) _).mono ?_
    rintro e w1 ⟨rfl, hb⟩
    go_wp2
    go_ret
    exact ⟨by simp, hb⟩
  · go_enter Try.func3, Try.ntmps3
    go_wp2_with fail
    refine (zz11_no p d hp hd h _).mono ?_
    rintro e w' ⟨rfl, rfl⟩
    go_wp2
    go_ret
    exact ⟨rfl, Below.refl _ _⟩
end Go.Proofs.Qxb6601254a
