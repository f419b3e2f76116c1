import Derived.Test.Qxb6000524aWalksA
import Derived.Test.Qxb6000524aPlain
namespace Go.Proofs.Qxb6000524a
open Go.RowKit

theorem pairCount_any (ao bo : Option Addr) (ca cb m n : Nat) (_hm : m ≤ maxLen) (_hn : n ≤ maxLen) (w : World) :
    Calls Try.prog 16 #[.slice ao m ca, .slice bo n cb] w fun e w' => e = .returned (.int .i64 (min m n : Nat)) ∧ w' = w := by
  unfold maxLen at _hm _hn
  by_cases h : n < m
  · go_enter Try.func16, Try.ntmps16
    go_wp2
    go_ret
    exact ⟨by rw [Nat.min_eq_right (by omega)]; rfl, rfl⟩
  · go_enter Try.func16, Try.ntmps16
    go_wp2
    go_ret
    exact ⟨by rw [Nat.min_eq_left (by omega)]; rfl, rfl⟩

/-- Each string is at most 1<<20 bytes long. -/
def Small (ss : List (List UInt8)) : Prop := ∀ s ∈ ss, s.length ≤ 1048576

set_option maxHeartbeats 400000 in
theorem clockBytes_any (ao bo : Option Addr) (ca cb n : Nat) (ss : List (List UInt8)) (hm : ss.length ≤ maxLen) (hn : n ≤ maxLen) (hsm : Small ss) (w : World) (h : IsStrs w ao ss) :
    Calls Try.prog 9 #[.slice ao ss.length ca, .slice bo n cb] w fun e w' => ∃ t : Int, e = .returned (.int .i64 t) ∧ 0 ≤ t ∧ t ≤ 1048577 ∧ w' = w := by
  obtain ⟨hsz, b, off, hc⟩ := h
  unfold maxLen at hm hn hsz
  by_cases h1 : ss.length ≤ 1048576
  · by_cases h2 : n ≤ 1048576
    · by_cases h3 : 8 * n + 16 * ss.length ≤ 1048576
      · go_enter Try.func9, Try.ntmps9
        go_wp2
        go_loop [5, 6] (fun t i => ∃ (k : Nat) (m : Int), k ≤ ss.length ∧ i = .int .i64 k ∧ t = .int .i64 m ∧ 0 ≤ m ∧ m ≤ 1048576) (fun _ i => ss.length - (intOf i).toNat)
        case atStart => exact ⟨0, _, Nat.zero_le _, rfl, rfl, by omega, by omega⟩
        case round =>
          obtain ⟨k, m, hk, rfl, rfl, hm0, hm1⟩ := hrel
          by_cases hlt : k < ss.length
          · obtain ⟨s, hq⟩ : ∃ q, ss[k]? = some q := ⟨ss[k], List.getElem?_eq_getElem hlt⟩
            obtain ⟨rfl, hb', hc0⟩ := hc k _ hq
            have hs0 := hsm _ (List.mem_of_getElem? hq)
            clear hc hsz hq
            have hs2 : (S s).size ≤ 1048576 := by rw [S_size]; exact hs0
            by_cases h5 : m + (S s).size ≤ 1048576
            · go_wp2
              go_round
              case rel => exact ⟨k + 1, _, by omega, by go_num, rfl, by omega, by omega⟩
              case measure => simp [intOf]; omega
            · go_wp2
              go_ret
              exact ⟨1048577, rfl, by omega, by omega, rfl⟩
          · go_wp2
            go_ret
            exact ⟨m, rfl, by omega, by omega, rfl⟩
      · go_enter Try.func9, Try.ntmps9
        go_wp2
        go_ret
        exact ⟨1048577, rfl, by omega, by omega, rfl⟩
    · go_enter Try.func9, Try.ntmps9
      go_wp2
      go_ret
      exact ⟨1048577, rfl, by omega, by omega, rfl⟩
  · go_enter Try.func9, Try.ntmps9
    go_wp2
    go_ret
    exact ⟨1048577, rfl, by omega, by omega, rfl⟩

/-- A bound's test: it hands back a Bool, and where that is true, P holds. -/
def Test (P : Prop) (w : World) (e : Ending) (w' : World) : Prop :=
  ∃ r : Bool, e = .returned (.bool r) ∧ w' = w ∧ (r = true → P)
theorem test_no {P : Prop} {w : World} : Test P w (.returned (.bool false)) w := ⟨false, rfl, rfl, fun h => by cases h⟩
theorem test_yes {P : Prop} {w : World} (h : P) : Test P w (.returned (.bool true)) w := ⟨true, rfl, rfl, fun _ => h⟩

/-- What the test of the bounds tells. -/
def Fit (ks ls : List (List UInt8)) (m n : Nat) : Prop := Small ks ∧ Small ls ∧ ks.length ≤ 1048576 ∧ ls.length ≤ 1048576 ∧ m ≤ 1048576 ∧ n ≤ 1048576

theorem small_nil (ss : List (List UInt8)) : Hid (Small (ss.take 0)) := by intro q hq; simp at hq

theorem small_snoc {ss : List (List UInt8)} {k : Nat} {a : List UInt8} (h : Small (ss.take k)) (hq : ss[k]? = some a) (ha : (S a).size ≤ 1048576) : Hid (Small (ss.take (k + 1))) := by
  intro q hm
  rw [List.take_add_one, hq] at hm
  rw [S_size] at ha
  rcases List.mem_append.1 hm with hm | hm
  · exact h q hm
  · simp at hm; subst hm; exact ha

set_option maxHeartbeats 1000000 in
theorem zz15_any (ao bo co eo : Option Addr) (ca cb cc ce m n : Nat) (ks ls : List (List UInt8)) (hk1 : ks.length ≤ maxLen) (hl1 : ls.length ≤ maxLen) (hm : m ≤ maxLen) (hn : n ≤ maxLen) (w : World) (h1 : IsStrs w ao ks) (h2 : IsStrs w co ls) :
    Calls Try.prog 15 #[.slice ao ks.length ca, .slice bo m cb, .slice co ls.length cc, .slice eo n ce] w (Test (Fit ks ls m n) w) := by
  obtain ⟨hsz, b, off, hc⟩ := h1
  obtain ⟨hsz2, b2, off2, hc2⟩ := h2
  unfold maxLen at hk1 hl1 hm hn hsz hsz2
  by_cases hbig : ks.length ≤ 1048576
  · go_enter Try.func15, Try.ntmps15
    go_wp2
    go_loop [9, 10] (fun t i => ∃ (k : Nat) (t0 : Int), k ≤ ks.length ∧ i = .int .i64 k ∧ t = .int .i64 t0 ∧ 0 ≤ t0 ∧ t0 ≤ 1048576 ∧ Hid (Small (ks.take k))) (fun _ i => ks.length - (intOf i).toNat)
    case atStart => exact ⟨0, _, Nat.zero_le _, rfl, rfl, by omega, by omega, small_nil ks⟩
    case round =>
      obtain ⟨k, t0, hk, rfl, rfl, hn0, hn1, HS⟩ := hrel
      by_cases hlt : k < ks.length
      · obtain ⟨a, hq⟩ : ∃ q, ks[k]? = some q := ⟨ks[k], List.getElem?_eq_getElem hlt⟩
        obtain ⟨rfl, hb', hc0⟩ := hc k _ hq
        have hs0 := hsz _ (List.mem_of_getElem? hq)
        have HQ : Hid (ks[k]? = some a) := hq
        clear hc hsz hq hc2 hsz2
        have hs2 : (S a).size ≤ 9223372036854775807 := by rw [S_size]; exact hs0
        go_wp2
        case roundEnd =>
          go_round
          case rel => exact ⟨k + 1, _, by omega, by go_num, rfl, by omega, by omega, small_snoc HS.out HQ.out (by omega)⟩
          case measure => simp [intOf]; omega
        all_goals (go_ret; exact test_no)
      · have hks : k = ks.length := by omega
        subst hks
        rw [List.take_length] at HS
        clear hc hsz
        by_cases g1 : m ≤ 1048576
        · by_cases g2 : t0 + m ≤ 1048576
          · by_cases g3 : ls.length ≤ 1048576
            · by_cases g4 : t0 + m + ls.length ≤ 1048576
              · go_wp2
                go_loop [9, 11] (fun t i => ∃ (k : Nat) (t0 : Int), k ≤ ls.length ∧ i = .int .i64 k ∧ t = .int .i64 t0 ∧ 0 ≤ t0 ∧ t0 ≤ 1048576 ∧ Hid (Small (ls.take k))) (fun _ i => ls.length - (intOf i).toNat)
                case atStart => exact ⟨0, _, Nat.zero_le _, rfl, rfl, by omega, by omega, small_nil ls⟩
                case round =>
                  obtain ⟨k, t1, hk, rfl, rfl, hn0, hn1, HS2⟩ := hrel
                  by_cases hlt : k < ls.length
                  · obtain ⟨a, hq⟩ : ∃ q, ls[k]? = some q := ⟨ls[k], List.getElem?_eq_getElem hlt⟩
                    obtain ⟨rfl, hb', hc0⟩ := hc2 k _ hq
                    have hs0 := hsz2 _ (List.mem_of_getElem? hq)
                    have HQ : Hid (ls[k]? = some a) := hq
                    clear hc2 hsz2 hq
                    have hs2 : (S a).size ≤ 9223372036854775807 := by rw [S_size]; exact hs0
                    go_wp2
                    case roundEnd =>
                      go_round
                      case rel => exact ⟨k + 1, _, by omega, by go_num, rfl, by omega, by omega, small_snoc HS2.out HQ.out (by omega)⟩
                      case measure => simp [intOf]; omega
                    all_goals (go_ret; exact test_no)
                  · have hks : k = ls.length := by omega
                    subst hks
                    rw [List.take_length] at HS2
                    clear hc2 hsz2
                    go_wp2
                    all_goals go_ret
                    all_goals first | exact test_no | exact test_yes ⟨HS.out, HS2.out, by omega, by omega, by omega, by omega⟩
              · go_wp2
                go_ret; exact test_no
            · go_wp2
              go_ret; exact test_no
          · go_wp2
            go_ret; exact test_no
        · go_wp2
          go_ret; exact test_no
  · go_enter Try.func15, Try.ntmps15
    go_wp2
    go_ret; exact test_no
end Go.Proofs.Qxb6000524a
