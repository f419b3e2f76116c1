import Derived.Test.Qxb6601254aWalksC
import Derived.Test.Qxb6601254aPlainB
namespace Go.Proofs.Qxb6601254a
open Go.RowKit

theorem IsPats.below {w w' : World} {ao : Option Addr} {ps : Pats} (h : IsPats w ao ps) {B : Nat} (hb : Below B w w') (hB : w.heap.size ≤ B) : IsPats w' ao ps := by
  obtain ⟨hsz, b, off, hb0, hc⟩ := h
  refine ⟨hsz, b, off, Nat.le_trans hb0 hb.size, fun i q hq => ?_⟩
  obtain ⟨h1, h2, h3, h4⟩ := hc i q hq
  exact ⟨h1, Nat.lt_of_lt_of_le h2 hb.size, (hb.cell (p := ⟨b, _, none⟩) (Nat.lt_of_lt_of_le h2 hB)).trans h3, (hb.cell (p := ⟨b, _, none⟩) (Nat.lt_of_lt_of_le h2 hB)).trans h4⟩

theorem toList_S (l : List UInt8) : (S l).toList = l := by rw [toList_L, L_S]

theorem plus_eq (a : List UInt8) : ((S a).toList == [43]) = decide (a = [43]) := by
  rw [toList_S]; by_cases h : a = [43] <;> simp [h]

set_option maxHeartbeats 400000 in
theorem inc_any (ao : Option Addr) (cap : Nat) (ps : Pats) (path : ByteArray) (hm : ps.length ≤ maxLen) (hp : path.size ≤ maxLen) (w : World) (h : IsPats w ao ps) :
    Calls Try.prog 19 #[.slice ao ps.length cap, .string path] w fun e w' => e = .returned (.bool (Pl.inc ps (L path))) ∧ w' = w := by
  obtain ⟨hsz, b, off, hb, hc⟩ := h
  have hm' := hm
  unfold maxLen at hm'
  go_enter Try.func19, Try.ntmps19
  go_wp2
  go_loop [5] (fun i => ∃ k : Nat, k ≤ ps.length ∧ i = .int .i64 ((k : Int) - 1) ∧ Hid (∀ q ∈ ps.drop k, Pl.mat (L path) q.2 = false)) (fun i => (intOf i + 1).toNat)
  case atStart => exact ⟨ps.length, Nat.le_refl _, rfl, by intro q hq; simp at hq⟩
  case round =>
    obtain ⟨k, hk, rfl, HN⟩ := hrel
    by_cases hlt : 0 < k
    · obtain ⟨j, rfl⟩ : ∃ j, k = j + 1 := ⟨k - 1, by omega⟩
      have ej : ((j + 1 : Nat) : Int) - 1 = (j : Int) := by omega
      simp only [ej]
      obtain ⟨⟨a, p⟩, hq⟩ : ∃ q, ps[j]? = some q := ⟨ps[j], List.getElem?_eq_getElem (by omega)⟩
      obtain ⟨rfl, hb', hc0, hc1⟩ := hc j _ hq
      obtain ⟨hs0, hs1⟩ := hsz _ (List.mem_of_getElem? hq)
      have HQ : Hid (ps[j]? = some (a, p)) := hq
      clear hc hsz hq ej hlt
      simp only [] at hs0 hs1 hc0 hc1
      by_cases heq : L path = p
      · have g : (path.toList == (S p).toList) = true := by rw [toList_L, toList_S, heq]; simp
        have HE : Hid (Pl.inc ps (L path) = decide (a = [43])) := Pl.inc_hit ps j (a, p) _ HQ.out (by simp [Pl.mat, heq]) HN.out
        clear heq
        go_wp2
        go_ret
        exact ⟨ret_bool (by rw [HE.out, plus_eq]), rfl⟩
      · have g : (path.toList == (S p).toList) = false := by rw [toList_L, toList_S]; simpa using heq
        have hsp : (S p).size ≤ maxLen := by rw [S_size]; exact hs1
        by_cases hbn : Pl.ben (L path) p = true
        · have HE : Hid (Pl.inc ps (L path) = decide (a = [43])) := Pl.inc_hit ps j (a, p) _ HQ.out (by simp [Pl.mat, hbn]) HN.out
          have HB : Hid (Pl.ben (L path) p = true) := hbn
          clear heq hbn
          go_wp2_with (go_at_call 29; refine (ben_any path (S p) hp hsp _).mono ?_; rintro e w' ⟨rfl, rfl⟩; rw [L_S, HB.out])
          go_ret
          exact ⟨ret_bool (by rw [HE.out, plus_eq]), rfl⟩
        · have HB : Hid (Pl.ben (L path) p = false) := by simpa [Hid] using hbn
          have HM : Hid (Pl.mat (L path) p = false) := by simp [Pl.mat, heq, hbn, Hid]
          clear heq hbn
          go_wp2_with (go_at_call 29; refine (ben_any path (S p) hp hsp _).mono ?_; rintro e w' ⟨rfl, rfl⟩; rw [L_S, HB.out])
          go_round
          case rel =>
            refine ⟨j, by omega, by go_num, fun q hq => ?_⟩
            have hj : j < ps.length := by omega
            obtain ⟨_, hv⟩ := List.getElem?_eq_some_iff.1 HQ.out
            rw [List.drop_eq_getElem_cons hj, hv] at hq
            rcases List.mem_cons.1 hq with rfl | hq
            · exact HM.out
            · exact HN.out q hq
          case measure => simp [intOf]
    · obtain rfl : k = 0 := by omega
      have HE : Hid (Pl.inc ps (L path) = true) := Pl.inc_none ps _ (by simpa using HN.out)
      go_wp2
      go_ret
      exact ⟨ret_bool HE.out.symm, rfl⟩

/-- What IncludesBeneath asks of one pattern. -/
def ask (ps : Pats) (dir : List UInt8) (q : Pl.Pt) : Bool := decide (q.1 = [43]) && Pl.ben q.2 dir && Pl.inc ps q.2

theorem incB_eq (ps : Pats) (dir : List UInt8) : Pl.incB ps dir = (Pl.inc ps dir || ps.any (ask ps dir)) := rfl

theorem none_snoc {ps : Pats} {k : Nat} {q : Pl.Pt} {f : Pl.Pt → Bool} (h : ∀ x ∈ ps.take k, f x = false) (hq : ps[k]? = some q) (hf : f q = false) : Hid (∀ x ∈ ps.take (k + 1), f x = false) := by
  intro x hm
  rw [List.take_add_one, hq] at hm
  rcases List.mem_append.1 hm with hm | hm
  · exact h x hm
  · simp at hm; subst hm; exact hf

theorem incB_hit {ps : Pats} {dir : List UInt8} {k : Nat} {q : Pl.Pt} (hq : ps[k]? = some q) (hf : ask ps dir q = true) : Pl.incB ps dir = true := by
  rw [incB_eq, Bool.or_eq_true, List.any_eq_true]
  exact Or.inr ⟨q, List.mem_of_getElem? hq, hf⟩

theorem incB_miss {ps : Pats} {dir : List UInt8} (h0 : Pl.inc ps dir = false) (h : ∀ x ∈ ps, ask ps dir x = false) : Pl.incB ps dir = false := by
  rw [incB_eq, h0, Bool.false_or, List.any_eq_false]
  intro x hx
  simp [h x hx]

set_option maxHeartbeats 400000 in
theorem incB_any (ao : Option Addr) (cap : Nat) (ps : Pats) (dir : ByteArray) (hm : ps.length ≤ maxLen) (hd : dir.size ≤ maxLen) (w : World) (h : IsPats w ao ps) :
    Calls Try.prog 26 #[.slice ao ps.length cap, .string dir] w fun e w' => e = .returned (.bool (Pl.incB ps (L dir))) ∧ Below w.heap.size w w' := by
  have hm' := hm
  unfold maxLen at hm'
  by_cases hi : Pl.inc ps (L dir) = true
  · have HI : Hid (Pl.inc ps (L dir) = true) := hi
    clear hi
    go_enter Try.func26, Try.ntmps26
    go_wp2_with fail
    refine (inc_any ao cap ps dir hm hd _ h).mono ?_
    rintro e w' ⟨rfl, rfl⟩
    rw [HI.out]
    go_wp2
    go_ret
    exact ⟨ret_bool (by rw [incB_eq, HI.out]; rfl), Below.refl _ _⟩
  · have HI : Hid (Pl.inc ps (L dir) = false) := by simpa [Hid] using hi
    clear hi
    go_enter Try.func26, Try.ntmps26
    go_wp2_with fail
    refine (inc_any ao cap ps dir hm hd _ h).mono ?_
    rintro e w' ⟨rfl, rfl⟩
    rw [HI.out]
    go_wp2
    go_loopw [12] (fun i wr => ∃ k : Nat, k ≤ ps.length ∧ i = .int .i64 k ∧ Hid (∀ q ∈ ps.take k, ask ps (L dir) q = false) ∧ Below w'.heap.size w' wr) (fun i _ => ps.length - (intOf i).toNat)
    case atStart => exact ⟨0, Nat.zero_le _, rfl, by intro q hq; simp at hq, Below.refl _ _⟩
    case round =>
      obtain ⟨k, hk, rfl, HN, hbel⟩ := hrel
      have hP := h.below hbel (Nat.le_refl _)
      by_cases hlt : k < ps.length
      · obtain ⟨⟨a, p⟩, hq⟩ : ∃ q, ps[k]? = some q := ⟨ps[k], List.getElem?_eq_getElem hlt⟩
        have hP2 := hP
        obtain ⟨hsz, b, off, hb, hc⟩ := hP2
        obtain ⟨rfl, hb', hc0, hc1⟩ := hc k _ hq
        obtain ⟨hs0, hs1⟩ := hsz _ (List.mem_of_getElem? hq)
        have HQ : Hid (ps[k]? = some (a, p)) := hq
        clear hc hsz hq h
        simp only [] at hs0 hs1 hc0 hc1
        have hsp : (S p).size ≤ maxLen := by rw [S_size]; exact hs1
        have HP : Hid (IsPats (wr.alloc (.cells #[.string (S a), .string (S p)] 41)) (some ⟨b, off, none⟩) ps) := hP.below (B := wr.heap.size) ((Below.refl _ _).alloc (Nat.le_refl _) _) (Nat.le_refl _)
        have hbel2 := hbel.alloc hbel.size (.cells #[.string (S a), .string (S p)] 41)
        by_cases ha : a = [43]
        · have g : ((S a).toList == [43]) = true := by rw [plus_eq, ha]; rfl
          by_cases hbn : Pl.ben p (L dir) = true
          · have HB : Hid (Pl.ben p (L dir) = true) := hbn
            by_cases hin : Pl.inc ps p = true
            · have HI2 : Hid (Pl.inc ps p = true) := hin
              have HE : Hid (Pl.incB ps (L dir) = true) := incB_hit HQ.out (by simp [ask, ha, hbn, hin])
              clear ha hbn hin
              go_wp2_with fail
              refine (ben_any (S p) dir hsp hd _).mono ?_
              rintro e w2 ⟨rfl, rfl⟩
              rw [L_S, HB.out]
              go_wp2_with fail
              refine (inc_any _ cap ps (S p) hm hsp _ HP.out).mono ?_
              rintro e w2 ⟨rfl, rfl⟩
              rw [L_S, HI2.out]
              go_wp2
              go_ret
              exact ⟨ret_bool HE.out.symm, hbel2⟩
            · have HI2 : Hid (Pl.inc ps p = false) := by simpa [Hid] using hin
              have HE := none_snoc HN.out HQ.out (f := ask ps (L dir)) (by simp [ask, hin])
              clear ha hbn hin
              go_wp2_with fail
              refine (ben_any (S p) dir hsp hd _).mono ?_
              rintro e w2 ⟨rfl, rfl⟩
              rw [L_S, HB.out]
              go_wp2_with fail
              refine (inc_any _ cap ps (S p) hm hsp _ HP.out).mono ?_
              rintro e w2 ⟨rfl, rfl⟩
              rw [L_S, HI2.out]
              go_wp2
              go_roundw
              case rel => exact ⟨k + 1, by omega, by go_num, HE, hbel2⟩
              case measure => simp [intOf]; omega
          · have HB : Hid (Pl.ben p (L dir) = false) := by simpa [Hid] using hbn
            have HE := none_snoc HN.out HQ.out (f := ask ps (L dir)) (by simp [ask, hbn])
            clear ha hbn
            go_wp2_with fail
            refine (ben_any (S p) dir hsp hd _).mono ?_
            rintro e w2 ⟨rfl, rfl⟩
            rw [L_S, HB.out]
            go_wp2
            go_roundw
            case rel => exact ⟨k + 1, by omega, by go_num, HE, hbel2⟩
            case measure => simp [intOf]; omega
        · have g : ((S a).toList == [43]) = false := by rw [plus_eq]; simpa using ha
          have HE := none_snoc HN.out HQ.out (f := ask ps (L dir)) (by simp [ask, ha])
          clear ha
          go_wp2
          go_roundw
          case rel => exact ⟨k + 1, by omega, by go_num, HE, hbel2⟩
          case measure => simp [intOf]; omega
      · have hks : k = ps.length := by omega
        subst hks
        rw [List.take_length] at HN
        have HE : Hid (Pl.incB ps (L dir) = false) := incB_miss HI.out HN.out
        go_wp2
        go_ret
        exact ⟨ret_bool HE.out.symm, hbel⟩
end Go.Proofs.Qxb6601254a
