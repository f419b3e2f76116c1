import Derived.Test.Qxb6001069aRows
import Derived.WalkKit
import Derived.ProofKit
import Derived.WalkSpells
import Derived.WalkLawsBesides
import Derived.Lib.Strings
import Derived.Lib.IndexBytes
import Derived.Outline
namespace Go.Proofs.Qxb6001069a
open Go.RowKit

/-- The bytes of a string. -/
def L (s : ByteArray) : List UInt8 := s.data.toList
theorem toList_L (s : ByteArray) : s.toList = L s := Lib.toList_data s
theorem L_len (s : ByteArray) : (L s).length = s.size := (Lib.size_eq s).symm
theorem L_extract (s : ByteArray) (a b : Nat) : L (s.extract a b) = ((L s).take b).drop a := by
  unfold L
  rw [Lib.extract_data, List.drop_take]
theorem L_at (s : ByteArray) (i : Nat) (h : i < s.size) : (L s)[i]? = some s[i] := Lib.data_getElem? s i h
theorem L_app (a b : ByteArray) : L (a ++ b) = L a ++ L b := by simp [L]

theorem desc_other (k : Int) (s : ByteArray) (l c en : Int) (h : k ≠ 0 ∧ k ≠ 2 ∧ k ≠ 5 ∧ k ≠ 6 ∧ k ≠ 8 ∧ k ≠ 11) (hs : s.size ≤ 1048576) (w : World) :
    Calls Try.prog 8 #[.int .u8 k, .string s, .int .i64 l, .int .i64 c, .int .i64 en] w fun e w' => ∃ q, e = .returned (.string q) ∧ L q = 39 :: (L s ++ [39]) ∧ Below w.heap.size w w' := by
  obtain ⟨h0, h2, h5, h6, h8, h11⟩ := h
  go_enter Try.func8, Try.ntmps8
  go_wp2
  go_ret
  exact ⟨⟨#[39]⟩ ++ s ++ ⟨#[39]⟩, rfl, by rw [L_app, L_app]; rfl, (Below.refl _ _).alloc (Nat.le_refl _) _⟩

theorem desc_var (s : ByteArray) (l c en : Int) (hs : s.size ≤ 1048576) (w : World) :
    Calls Try.prog 8 #[.int .u8 5, .string s, .int .i64 l, .int .i64 c, .int .i64 en] w fun e w' => ∃ q, e = .returned (.string q) ∧ L q = 39 :: 37 :: (L s ++ [39]) ∧ Below w.heap.size w w' := by
  go_enter Try.func8, Try.ntmps8
  go_wp2
  go_ret
  exact ⟨⟨#[39, 37]⟩ ++ s ++ ⟨#[39]⟩, rfl, by rw [L_app, L_app]; rfl, (Below.refl _ _).alloc (Nat.le_refl _) _⟩

/-- The bytes at the ends, in the walk's own form. -/
theorem first_is {q : ByteArray} {x : UInt8} {r : List UInt8} (h : L q = x :: r) : ∃ hp : 0 < q.size, q[0] = x := by
  have hp : 0 < q.size := by rw [← L_len, h]; simp
  refine ⟨hp, ?_⟩
  have := L_at q 0 hp
  rw [h] at this
  simpa using this.symm
theorem last_is {q : ByteArray} {x : UInt8} {r : List UInt8} (h : L q = r ++ [x]) : ∃ hp : q.size - 1 < q.size, q[q.size - 1] = x := by
  have hl : q.size = r.length + 1 := by rw [← L_len, h]; simp
  have hp : q.size - 1 < q.size := by omega
  refine ⟨hp, ?_⟩
  have hv := L_at q (q.size - 1) hp
  have hw : (L q)[q.size - 1]? = some x := by rw [h, hl]; simp
  rw [hw] at hv
  exact (Option.some.inj hv).symm

theorem zz9_yes (k : Int) (s : ByteArray) (hs : s.size ≤ 1048576) (w : World) :
    Calls Try.prog 9 #[.int .u8 k, .string s] w fun e w' => e = .returned (.bool true) ∧ w' = w := by
  go_enter Try.func9, Try.ntmps9
  go_wp2
  go_ret
  exact ⟨rfl, rfl⟩
theorem zz9_no (k : Int) (s : ByteArray) (hs : ¬ s.size ≤ 1048576) (w : World) :
    Calls Try.prog 9 #[.int .u8 k, .string s] w fun e w' => e = .returned (.bool false) ∧ w' = w := by
  go_enter Try.func9, Try.ntmps9
  go_wp2
  go_ret
  exact ⟨rfl, rfl⟩
theorem fixed_no (k : Int) (h : k ≠ 0 ∧ k ≠ 2 ∧ k ≠ 6 ∧ k ≠ 8 ∧ k ≠ 11) (w : World) :
    Calls Try.prog 7 #[.int .u8 k] w fun e w' => e = .returned (.bool false) ∧ w' = w := by
  obtain ⟨h0, h2, h6, h8, h11⟩ := h
  go_enter Try.func7, Try.ntmps7
  go_wp2
  go_ret
  exact ⟨rfl, rfl⟩
theorem fixed_yes (k : Int) (h : k = 0 ∨ k = 2 ∨ k = 6 ∨ k = 8 ∨ k = 11) (w : World) :
    Calls Try.prog 7 #[.int .u8 k] w fun e w' => e = .returned (.bool true) ∧ w' = w := by
  rcases h with rfl | rfl | rfl | rfl | rfl
  all_goals
    go_enter Try.func7, Try.ntmps7
    go_wp2
    go_ret
    exact ⟨rfl, rfl⟩

theorem law4_other (k : Int) (s : ByteArray) (h : k ≠ 0 ∧ k ≠ 2 ∧ k ≠ 5 ∧ k ≠ 6 ∧ k ≠ 8 ∧ k ≠ 11) (hs : s.size ≤ 1048576) (w : World) :
    Calls Try.prog 4 #[.int .u8 k, .string s] w fun e w' => e = .returned (.bool true) ∧ Below w.heap.size w w' := by
  have hk := h
  obtain ⟨h0, h2, h5, h6, h8, h11⟩ := h
  go_enter Try.func4, Try.ntmps4
  go_wp2_with fail
  refine (zz9_yes k s hs _).mono ?_
  rintro e w' ⟨rfl, rfl⟩
  go_wp2_with fail
  refine (fixed_no k ⟨h0, h2, h6, h8, h11⟩ _).mono ?_
  rintro e w' ⟨rfl, rfl⟩
  go_wp2_with fail
  refine (desc_other k s _ _ _ hk hs _).mono ?_
  rintro e w1 ⟨q, rfl, hq, hb⟩
  obtain ⟨hp0, e0⟩ := first_is hq
  obtain ⟨hp1, e1⟩ := last_is (q := q) (x := 39) (r := 39 :: L s) (by rw [hq]; rfl)
  have hl : q.size = s.size + 2 := by rw [← L_len, hq, ← L_len s]; simp
  have hl2 : 2 ≤ q.size := by omega
  have hl3 : q.size ≤ 1048578 := by omega
  have HM : Hid (L (q.extract 1 (q.size - 1)) = L s) := by
    show _ = _
    rw [L_extract, hq, hl, ← L_len s]; simp
  have t0 : (((q[0].toNat : Nat) : Int) != 39) = false := by rw [e0]; rfl
  have t1 : (((q[q.size - 1].toNat : Nat) : Int) != 39) = false := by rw [e1]; rfl
  clear e0 e1 hl hq
  go_wp2
  go_ret
  exact ⟨by rw [toList_L, toList_L, HM.out]; simp, hb⟩

set_option maxHeartbeats 800000 in
theorem law4_var (s : ByteArray) (hs : s.size ≤ 1048576) (w : World) :
    Calls Try.prog 4 #[.int .u8 5, .string s] w fun e w' => e = .returned (.bool true) ∧ Below w.heap.size w w' := by
  go_enter Try.func4, Try.ntmps4
  go_wp2_with fail
  refine (zz9_yes 5 s hs _).mono ?_
  rintro e w' ⟨rfl, rfl⟩
  go_wp2_with fail
  refine (fixed_no 5 (by decide) _).mono ?_
  rintro e w' ⟨rfl, rfl⟩
  go_wp2_with fail
  refine (desc_var s _ _ _ hs _).mono ?_
  rintro e w1 ⟨q, rfl, hq, hb⟩
  obtain ⟨hp0, e0⟩ := first_is hq
  obtain ⟨hp1, e1⟩ := last_is (q := q) (x := 39) (r := 39 :: 37 :: L s) (by rw [hq]; rfl)
  have hl : q.size = s.size + 3 := by rw [← L_len, hq, ← L_len s]; simp
  have hl2 : 3 ≤ q.size := by omega
  have hl3 : q.size ≤ 1048579 := by omega
  have hm : L (q.extract 1 (q.size - 1)) = 37 :: L s := by
    rw [L_extract, hq, hl, ← L_len s]; simp
  obtain ⟨hp2, e2⟩ := first_is hm
  have HM : Hid (∀ n, n = s.size + 1 → L ((q.extract 1 (q.size - 1)).extract 1 n) = L s) := by
    intro n hn
    rw [L_extract, hm, hn, ← L_len s]; simp
  have HZ : Hid (s.size + 1 = q.size - 1 - 1) := by show _ = _; omega
  have t0 : (((q[0].toNat : Nat) : Int) != 39) = false := by rw [e0]; rfl
  have t1 : (((q[q.size - 1].toNat : Nat) : Int) != 39) = false := by rw [e1]; rfl
  have t2 : ((((q.extract 1 (q.size - 1))[0].toNat : Nat) : Int) != 37) = false := by rw [e2]; rfl
  clear e0 e1 e2 hl hq hm
  go_wp2
  go_ret
  exact ⟨by rw [toList_L, toList_L, HM.out _ HZ.out.symm]; simp, hb⟩

theorem law4_fixed (k : Int) (s : ByteArray) (h : k = 0 ∨ k = 2 ∨ k = 6 ∨ k = 8 ∨ k = 11) (hs : s.size ≤ 1048576) (w : World) :
    Calls Try.prog 4 #[.int .u8 k, .string s] w fun e w' => e = .returned (.bool true) ∧ Below w.heap.size w w' := by
  go_enter Try.func4, Try.ntmps4
  go_wp2_with fail
  refine (zz9_yes k s hs _).mono ?_
  rintro e w' ⟨rfl, rfl⟩
  go_wp2_with fail
  refine (fixed_yes k h _).mono ?_
  rintro e w' ⟨rfl, rfl⟩
  go_wp2
  go_ret
  exact ⟨rfl, Below.refl _ _⟩

theorem law4_long (k : Int) (s : ByteArray) (hs : ¬ s.size ≤ 1048576) (w : World) :
    Calls Try.prog 4 #[.int .u8 k, .string s] w fun e w' => e = .returned (.bool true) ∧ Below w.heap.size w w' := by
  go_enter Try.func4, Try.ntmps4
  go_wp2_with fail
  refine (zz9_no k s hs _).mono ?_
  rintro e w' ⟨rfl, rfl⟩
  go_wp2
  go_ret
  exact ⟨rfl, Below.refl _ _⟩

theorem law4 (k : Int) (s : ByteArray) (w : World) :
    Calls Try.prog 4 #[.int .u8 k, .string s] w fun e w' => e = .returned (.bool true) ∧ Below w.heap.size w w' := by
  by_cases hs : s.size ≤ 1048576
  · by_cases hf : k = 0 ∨ k = 2 ∨ k = 6 ∨ k = 8 ∨ k = 11
    · exact law4_fixed k s hf hs w
    · by_cases hv : k = 5
      · subst hv
        exact law4_var s hs w
      · exact law4_other k s ⟨fun e => hf (by simp [e]), fun e => hf (by simp [e]), hv, fun e => hf (by simp [e]), fun e => hf (by simp [e]), fun e => hf (by simp [e])⟩ hs w
  · exact law4_long k s hs w
end Go.Proofs.Qxb6001069a
