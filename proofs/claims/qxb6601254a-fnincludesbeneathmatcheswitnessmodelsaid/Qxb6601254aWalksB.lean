import Derived.Test.Qxb6601254aWalksA
namespace Go.Proofs.Qxb6601254a
open Go.RowKit

abbrev Pats := List (List UInt8 × List UInt8)

/-- THE SLICE VALUE '.slice ao ps.length _' LEADS TO THE PATTERNS ps. -/
def IsPats (w : World) (ao : Option Addr) (ps : Pats) : Prop :=
  (∀ q ∈ ps, q.1.length ≤ maxLen ∧ q.2.length ≤ maxLen) ∧
  ∃ b off, b ≤ w.heap.size ∧ ∀ i q, ps[i]? = some q → ao = some ⟨b, off, none⟩ ∧ b < w.heap.size ∧ w.cell? ⟨b, off + i * 2, none⟩ = some (.string (S q.1)) ∧ w.cell? ⟨b, off + i * 2 + 1, none⟩ = some (.string (S q.2))

theorem S_size (l : List UInt8) : (S l).size = l.length := by rw [← L_len, L_S]

set_option maxHeartbeats 400000 in
theorem patBytes_any (ao : Option Addr) (cap : Nat) (ps : Pats) (hm : ps.length ≤ maxLen) (w : World) (h : IsPats w ao ps) :
    Calls Try.prog 17 #[.slice ao ps.length cap] w fun e w' => ∃ n : Int, e = .returned (.int .i64 n) ∧ -1 ≤ n ∧ n ≤ 1048576 ∧ w' = w := by
  obtain ⟨hsz, b, off, hb, hc⟩ := h
  unfold maxLen at hm hsz
  by_cases hbig : ps.length ≤ 65536
  · go_enter Try.func17, Try.ntmps17
    go_wp2
    go_loop [3, 4] (fun t i => ∃ (k : Nat) (n : Int), k ≤ ps.length ∧ i = .int .i64 k ∧ t = .int .i64 n ∧ 0 ≤ n ∧ n ≤ 2097152 ∧ (k = 0 ∧ n ≤ 32 * (ps.length : Int) ∨ n ≤ 1048576)) (fun _ i => ps.length - (intOf i).toNat)
    case atStart => exact ⟨0, _, Nat.zero_le _, rfl, rfl, by omega, by omega, Or.inl ⟨rfl, by omega⟩⟩
    case round =>
      obtain ⟨k, n, hk, rfl, rfl, hn0, hn1, hn2⟩ := hrel
      by_cases hlt : k < ps.length
      · obtain ⟨⟨a, p⟩, hq⟩ : ∃ q, ps[k]? = some q := ⟨ps[k], List.getElem?_eq_getElem hlt⟩
        obtain ⟨rfl, hb', hc0, hc1⟩ := hc k _ hq
        obtain ⟨hs0, hs1⟩ := hsz _ (List.mem_of_getElem? hq)
        clear hc hsz hq
        simp only [] at hs0 hs1 hc0 hc1
        have hs2 : (S a).size ≤ 9223372036854775807 := by rw [S_size]; exact hs0
        have hs3 : (S p).size ≤ 9223372036854775807 := by rw [S_size]; exact hs1
        go_wp2
        · go_ret; exact ⟨-1, rfl, by omega, by omega, rfl⟩
        · go_ret; exact ⟨-1, rfl, by omega, by omega, rfl⟩
        · go_round
          case rel => exact ⟨k + 1, _, by omega, by go_num, rfl, by omega, by omega, Or.inr (by omega)⟩
          case measure => simp [intOf]; omega
        · go_ret; exact ⟨-1, rfl, by omega, by omega, rfl⟩
      · go_wp2
        go_ret
        exact ⟨n, rfl, by omega, by omega, rfl⟩
  · go_enter Try.func17, Try.ntmps17
    go_wp2
    go_ret; exact ⟨-1, rfl, by omega, by omega, rfl⟩

/-- A bound's test: it hands back a Bool, and where that is true, P holds. -/
def Test (P : Prop) (w : World) (e : Ending) (w' : World) : Prop :=
  ∃ r : Bool, e = .returned (.bool r) ∧ w' = w ∧ (r = true → P)
theorem test_no {P : Prop} {w : World} : Test P w (.returned (.bool false)) w := ⟨false, rfl, rfl, fun h => by cases h⟩
theorem test_yes {P : Prop} {w : World} (h : P) : Test P w (.returned (.bool true)) w := ⟨true, rfl, rfl, fun _ => h⟩

/-- Each string of ps is at most 1<<20 bytes long. -/
def Small (ps : Pats) : Prop := ∀ q ∈ ps, q.1.length ≤ 1048576 ∧ q.2.length ≤ 1048576

/-- What the test of the bounds tells: of the patterns, and of the strings beside them. -/
def Fit (ps : Pats) (l : List ByteArray) : Prop := Small ps ∧ ps.length ≤ 1048576 ∧ ∀ x ∈ l, x.size ≤ 1048576

theorem small_nil (ps : Pats) : Hid (Small (ps.take 0)) := by intro q hq; simp at hq

theorem small_snoc {ps : Pats} {k : Nat} {a p : List UInt8} (h : Small (ps.take k)) (hq : ps[k]? = some (a, p)) (ha : (S a).size ≤ 1048576) (hp : (S p).size ≤ 1048576) : Hid (Small (ps.take (k + 1))) := by
  intro q hm
  rw [List.take_add_one, hq] at hm
  rw [S_size] at ha hp
  rcases List.mem_append.1 hm with hm | hm
  · exact h q hm
  · simp at hm; subst hm; exact ⟨ha, hp⟩

set_option maxHeartbeats 400000 in
theorem zz27_any (ao : Option Addr) (cap : Nat) (ps : Pats) (dir : ByteArray) (q : ByteArray) (hm : ps.length ≤ maxLen) (hdir : dir.size ≤ maxLen) (hq : q.size ≤ maxLen) (w : World) (h : IsPats w ao ps) :
    Calls Try.prog 27 #[.slice ao ps.length cap, .string dir, .string q] w (Test (Fit ps [dir, q]) w) := by
  obtain ⟨hsz, b, off, hb, hc⟩ := h
  unfold maxLen at hm hsz hdir hq
  by_cases hbig : ps.length ≤ 1048576
  · go_enter Try.func27, Try.ntmps27
    go_wp2
    go_loop [7, 8] (fun t i => ∃ (k : Nat) (n : Int), k ≤ ps.length ∧ i = .int .i64 k ∧ t = .int .i64 n ∧ 0 ≤ n ∧ n ≤ 1048576 ∧ Hid (Small (ps.take k))) (fun _ i => ps.length - (intOf i).toNat)
    case atStart => exact ⟨0, _, Nat.zero_le _, rfl, rfl, by omega, by omega, small_nil ps⟩
    case round =>
      obtain ⟨k, n, hk, rfl, rfl, hn0, hn1, HS⟩ := hrel
      by_cases hlt : k < ps.length
      · obtain ⟨⟨a, p⟩, hq⟩ : ∃ q, ps[k]? = some q := ⟨ps[k], List.getElem?_eq_getElem hlt⟩
        obtain ⟨rfl, hb', hc0, hc1⟩ := hc k _ hq
        obtain ⟨hs0, hs1⟩ := hsz _ (List.mem_of_getElem? hq)
        have HQ : Hid (ps[k]? = some (a, p)) := hq
        clear hc hsz hq
        simp only [] at hs0 hs1 hc0 hc1
        have hs2 : (S a).size ≤ 9223372036854775807 := by rw [S_size]; exact hs0
        have hs3 : (S p).size ≤ 9223372036854775807 := by rw [S_size]; exact hs1
        go_wp2
        case roundEnd =>
          go_round
          case rel => exact ⟨k + 1, _, by omega, by go_num, rfl, by omega, by omega, small_snoc HS.out HQ.out (by omega) (by omega)⟩
          case measure => simp [intOf]; omega
        all_goals (go_ret; exact test_no)
      · have hks : k = ps.length := by omega
        subst hks
        rw [List.take_length] at HS
        go_wp2
        all_goals go_ret
        all_goals first | exact test_no | exact test_yes ⟨HS.out, hbig, by simp; omega⟩
  · go_enter Try.func27, Try.ntmps27
    go_wp2
    go_ret; exact test_no

set_option maxHeartbeats 400000 in
theorem zz16_any (ao : Option Addr) (cap : Nat) (ps : Pats) (path : ByteArray) (hm : ps.length ≤ maxLen) (hpath : path.size ≤ maxLen) (w : World) (h : IsPats w ao ps) :
    Calls Try.prog 16 #[.slice ao ps.length cap, .string path] w (Test (Fit ps [path]) w) := by
  obtain ⟨hsz, b, off, hb, hc⟩ := h
  unfold maxLen at hm hsz hpath
  by_cases hbig : ps.length ≤ 1048576
  · go_enter Try.func16, Try.ntmps16
    go_wp2
    go_loop [5, 6] (fun t i => ∃ (k : Nat) (n : Int), k ≤ ps.length ∧ i = .int .i64 k ∧ t = .int .i64 n ∧ 0 ≤ n ∧ n ≤ 1048576 ∧ Hid (Small (ps.take k))) (fun _ i => ps.length - (intOf i).toNat)
    case atStart => exact ⟨0, _, Nat.zero_le _, rfl, rfl, by omega, by omega, small_nil ps⟩
    case round =>
      obtain ⟨k, n, hk, rfl, rfl, hn0, hn1, HS⟩ := hrel
      by_cases hlt : k < ps.length
      · obtain ⟨⟨a, p⟩, hq⟩ : ∃ q, ps[k]? = some q := ⟨ps[k], List.getElem?_eq_getElem hlt⟩
        obtain ⟨rfl, hb', hc0, hc1⟩ := hc k _ hq
        obtain ⟨hs0, hs1⟩ := hsz _ (List.mem_of_getElem? hq)
        have HQ : Hid (ps[k]? = some (a, p)) := hq
        clear hc hsz hq
        simp only [] at hs0 hs1 hc0 hc1
        have hs2 : (S a).size ≤ 9223372036854775807 := by rw [S_size]; exact hs0
        have hs3 : (S p).size ≤ 9223372036854775807 := by rw [S_size]; exact hs1
        go_wp2
        case roundEnd =>
          go_round
          case rel => exact ⟨k + 1, _, by omega, by go_num, rfl, by omega, by omega, small_snoc HS.out HQ.out (by omega) (by omega)⟩
          case measure => simp [intOf]; omega
        all_goals (go_ret; exact test_no)
      · have hks : k = ps.length := by omega
        subst hks
        rw [List.take_length] at HS
        go_wp2
        all_goals go_ret
        all_goals first | exact test_no | exact test_yes ⟨HS.out, hbig, by simp; omega⟩
  · go_enter Try.func16, Try.ntmps16
    go_wp2
    go_ret; exact test_no

set_option maxHeartbeats 400000 in
theorem zz24_any (ao : Option Addr) (cap : Nat) (ps : Pats) (dir : ByteArray) (hm : ps.length ≤ maxLen) (hdir : dir.size ≤ maxLen) (w : World) (h : IsPats w ao ps) :
    Calls Try.prog 24 #[.slice ao ps.length cap, .string dir] w (Test (Fit ps [dir]) w) := by
  obtain ⟨hsz, b, off, hb, hc⟩ := h
  unfold maxLen at hm hsz hdir
  by_cases hbig : ps.length ≤ 1048576
  · go_enter Try.func24, Try.ntmps24
    go_wp2
    go_loop [5, 6] (fun t i => ∃ (k : Nat) (n : Int), k ≤ ps.length ∧ i = .int .i64 k ∧ t = .int .i64 n ∧ 0 ≤ n ∧ n ≤ 1048576 ∧ Hid (Small (ps.take k))) (fun _ i => ps.length - (intOf i).toNat)
    case atStart => exact ⟨0, _, Nat.zero_le _, rfl, rfl, by omega, by omega, small_nil ps⟩
    case round =>
      obtain ⟨k, n, hk, rfl, rfl, hn0, hn1, HS⟩ := hrel
      by_cases hlt : k < ps.length
      · obtain ⟨⟨a, p⟩, hq⟩ : ∃ q, ps[k]? = some q := ⟨ps[k], List.getElem?_eq_getElem hlt⟩
        obtain ⟨rfl, hb', hc0, hc1⟩ := hc k _ hq
        obtain ⟨hs0, hs1⟩ := hsz _ (List.mem_of_getElem? hq)
        have HQ : Hid (ps[k]? = some (a, p)) := hq
        clear hc hsz hq
        simp only [] at hs0 hs1 hc0 hc1
        have hs2 : (S a).size ≤ 9223372036854775807 := by rw [S_size]; exact hs0
        have hs3 : (S p).size ≤ 9223372036854775807 := by rw [S_size]; exact hs1
        go_wp2
        case roundEnd =>
          go_round
          case rel => exact ⟨k + 1, _, by omega, by go_num, rfl, by omega, by omega, small_snoc HS.out HQ.out (by omega) (by omega)⟩
          case measure => simp [intOf]; omega
        all_goals (go_ret; exact test_no)
      · have hks : k = ps.length := by omega
        subst hks
        rw [List.take_length] at HS
        go_wp2
        all_goals go_ret
        all_goals first | exact test_no | exact test_yes ⟨HS.out, hbig, by simp; omega⟩
  · go_enter Try.func24, Try.ntmps24
    go_wp2
    go_ret; exact test_no

set_option maxHeartbeats 400000 in
theorem zz21_any (ao : Option Addr) (cap : Nat) (ps : Pats) (action : ByteArray) (ppath : ByteArray) (path : ByteArray) (hm : ps.length ≤ maxLen) (haction : action.size ≤ maxLen) (hppath : ppath.size ≤ maxLen) (hpath : path.size ≤ maxLen) (w : World) (h : IsPats w ao ps) :
    Calls Try.prog 21 #[.slice ao ps.length cap, .string action, .string ppath, .string path] w (Test (Fit ps [action, ppath, path]) w) := by
  obtain ⟨hsz, b, off, hb, hc⟩ := h
  unfold maxLen at hm hsz haction hppath hpath
  by_cases hbig : ps.length ≤ 1048576
  · go_enter Try.func21, Try.ntmps21
    go_wp2
    go_loop [9, 10] (fun t i => ∃ (k : Nat) (n : Int), k ≤ ps.length ∧ i = .int .i64 k ∧ t = .int .i64 n ∧ 0 ≤ n ∧ n ≤ 1048576 ∧ Hid (Small (ps.take k))) (fun _ i => ps.length - (intOf i).toNat)
    case atStart => exact ⟨0, _, Nat.zero_le _, rfl, rfl, by omega, by omega, small_nil ps⟩
    case round =>
      obtain ⟨k, n, hk, rfl, rfl, hn0, hn1, HS⟩ := hrel
      by_cases hlt : k < ps.length
      · obtain ⟨⟨a, p⟩, hq⟩ : ∃ q, ps[k]? = some q := ⟨ps[k], List.getElem?_eq_getElem hlt⟩
        obtain ⟨rfl, hb', hc0, hc1⟩ := hc k _ hq
        obtain ⟨hs0, hs1⟩ := hsz _ (List.mem_of_getElem? hq)
        have HQ : Hid (ps[k]? = some (a, p)) := hq
        clear hc hsz hq
        simp only [] at hs0 hs1 hc0 hc1
        have hs2 : (S a).size ≤ 9223372036854775807 := by rw [S_size]; exact hs0
        have hs3 : (S p).size ≤ 9223372036854775807 := by rw [S_size]; exact hs1
        go_wp2
        case roundEnd =>
          go_round
          case rel => exact ⟨k + 1, _, by omega, by go_num, rfl, by omega, by omega, small_snoc HS.out HQ.out (by omega) (by omega)⟩
          case measure => simp [intOf]; omega
        all_goals (go_ret; exact test_no)
      · have hks : k = ps.length := by omega
        subst hks
        rw [List.take_length] at HS
        go_wp2
        all_goals go_ret
        all_goals first | exact test_no | exact test_yes ⟨HS.out, hbig, by simp; omega⟩
  · go_enter Try.func21, Try.ntmps21
    go_wp2
    go_ret; exact test_no

end Go.Proofs.Qxb6601254a
