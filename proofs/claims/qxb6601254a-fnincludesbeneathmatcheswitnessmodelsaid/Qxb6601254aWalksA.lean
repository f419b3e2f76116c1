import Derived.Test.Qxb6601254aRows
import Derived.Test.Qxb6601254aPlain
import Derived.WalkKit
import Derived.ProofKit
import Derived.WalkSpells
import Derived.WalkLawsBesides
import Derived.Lib.Strings
import Derived.Lib.IndexBytes
import Derived.Deep.OwnRows
import Derived.Outline
import Derived.BigQuiet
namespace Go.Proofs.Qxb6601254a
open Go.RowKit

/-- The bytes of a string. -/
def L (s : ByteArray) : List UInt8 := s.data.toList
/-- The string of bytes. -/
def S (l : List UInt8) : ByteArray := ⟨l.toArray⟩

theorem L_S (l : List UInt8) : L (S l) = l := by simp [L, S]
theorem S_L (s : ByteArray) : S (L s) = s := Lib.mk_data s
theorem toList_L (s : ByteArray) : s.toList = L s := Lib.toList_data s
theorem L_len (s : ByteArray) : (L s).length = s.size := (Lib.size_eq s).symm
theorem L_inj {a b : ByteArray} (h : L a = L b) : a = b := by rw [← S_L a, h, S_L]
theorem L_extract (s : ByteArray) (a b : Nat) : L (s.extract a b) = ((L s).take b).drop a := by
  unfold L
  rw [Lib.extract_data, List.drop_take]
theorem L_at (s : ByteArray) (i : Nat) (h : i < s.size) : (L s)[i]? = some s[i] := Lib.data_getElem? s i h
theorem byte47 (c : UInt8) : ((c.toNat : Nat) : Int) = 47 ↔ c = 47 := by
  constructor
  · intro h
    apply UInt8.toNat_inj.1
    have : c.toNat = 47 := by omega
    rw [this]; rfl
  · rintro rfl; rfl

theorem ret_bool {a b : Bool} (h : a = b) : Ending.returned (.bool a) = .returned (.bool b) := by rw [h]

/-- patterns.beneath -/
theorem ben_any (p d : ByteArray) (_hp : p.size ≤ maxLen) (hd : d.size ≤ maxLen) (w : World) :
    Calls Try.prog 29 #[.string p, .string d] w fun e w' => e = .returned (.bool (Pl.ben (L p) (L d))) ∧ w' = w := by
  unfold maxLen at _hp hd
  go_enter Try.func29, Try.ntmps29
  go_wp2
  all_goals go_ret
  · have h : (d.toList == [46]) = true := by assumption
    rw [toList_L, beq_iff_eq] at h
    exact ⟨ret_bool (by rw [h, Pl.ben_dot, toList_L]; by_cases h2 : L p = [46] <;> simp [h2]), rfl⟩
  · have h : (d.toList == [46]) = false := by assumption
    have hlt : d.size < p.size := by assumption
    have h2 : ((p[d.size].toNat : Nat) : Int) = 47 := by assumption
    rw [toList_L, beq_eq_false_iff_ne] at h
    exact ⟨ret_bool (by rw [Pl.ben_hit _ _ h (by rw [L_len, L_at _ _ hlt, (byte47 _).1 h2]), toList_L, toList_L, L_extract, L_len]; simp), rfl⟩
  · have h : (d.toList == [46]) = false := by assumption
    have hlt : d.size < p.size := by assumption
    have h2 : ¬ ((p[d.size].toNat : Nat) : Int) = 47 := by assumption
    rw [toList_L, beq_eq_false_iff_ne] at h
    exact ⟨ret_bool (by rw [Pl.ben_miss _ _ h]; rw [L_len, L_at _ _ hlt]; intro e; exact h2 ((byte47 _).2 (Option.some.inj e))), rfl⟩
  · have h : (d.toList == [46]) = false := by assumption
    have hlt : ¬ d.size < p.size := by assumption
    rw [toList_L, beq_eq_false_iff_ne] at h
    exact ⟨ret_bool (by rw [Pl.ben_miss _ _ h]; rw [L_len, List.getElem?_eq_none (by rw [L_len]; omega)]; simp), rfl⟩

theorem zben_any (p d : ByteArray) (hp : p.size ≤ maxLen) (hd : d.size ≤ maxLen) (w : World) :
    Calls Try.prog 12 #[.string p, .string d] w fun e w' => e = .returned (.bool (Pl.ben (L p) (L d))) ∧ w' = w := by
  go_enter Try.func12, Try.ntmps12
  go_wp2_with (go_at_call 29; refine (ben_any p d hp hd _).mono ?_; rintro e w' ⟨rfl, rfl⟩)
  go_ret
  exact ⟨rfl, rfl⟩

theorem info9 : (Try.prog.info? 9).map (fun i => (i.zero, i.size, i.bytes)) = some (some (.string ByteArray.empty), 1, 16) := by kernel_rfl


theorem take_snoc (s : ByteArray) (k : Nat) (h : k < s.size) : (L s).take (k + 1) = (L s).take k ++ [s[k]] := by
  rw [List.take_add_one, L_at s k h]; rfl
theorem byte_yes {c : UInt8} (h : (((c.toNat : Nat) : Int) == 47) = true) : c = 47 := (byte47 c).1 (beq_iff_eq.1 h)
theorem byte_no {c : UInt8} (h : (((c.toNat : Nat) : Int) == 47) = false) : ¬ c = 47 := fun e => (beq_eq_false_iff_ne.1 h) ((byte47 c).2 e)

/-- What the second loop's row holds when the text l has been read. -/
def rowAt (l : List UInt8) (j : Nat) : Value := if j + 1 < (Pl.comps l).length then .string (S ((Pl.comps l).getD j [])) else .string ByteArray.empty

theorem row_slash (l : List UInt8) (x : ByteArray) (hx : L x = (Pl.comps l).getD ((Pl.comps l).length - 1) []) (j : Nat) :
    (if j = (Pl.comps l).length - 1 then .string x else rowAt l j) = rowAt (l ++ [47]) j := by
  have hp := Pl.comps_pos l
  unfold rowAt
  rw [Pl.len_slash]
  by_cases h : j = (Pl.comps l).length - 1
  · rw [if_pos h, if_pos (by omega), Pl.step_slash _ _ (by omega), h, ← hx, S_L]
  · rw [if_neg h]
    by_cases h2 : j + 1 < (Pl.comps l).length
    · rw [if_pos h2, if_pos (by omega), Pl.step_slash _ _ (by omega)]
    · rw [if_neg h2, if_neg (by omega)]

theorem row_other (l : List UInt8) (c : UInt8) (h : ¬ c = 47) (j : Nat) : rowAt l j = rowAt (l ++ [c]) j := by
  unfold rowAt
  rw [Pl.len_other _ _ h]
  by_cases h2 : j + 1 < (Pl.comps l).length
  · rw [if_pos h2, if_pos h2, Pl.step_other _ _ h _ (by omega)]
  · rw [if_neg h2, if_neg h2]

theorem row_done (l : List UInt8) (x : ByteArray) (hx : L x = (Pl.comps l).getD ((Pl.comps l).length - 1) []) (j : Nat) (hj : j < (Pl.comps l).length) :
    (if j = (Pl.comps l).length - 1 then .string x else rowAt l j) = Value.string (S ((Pl.comps l).getD j [])) := by
  unfold rowAt
  by_cases h : j = (Pl.comps l).length - 1
  · rw [if_pos h, h, ← hx, S_L]
  · rw [if_neg h, if_pos (by omega)]

set_option maxHeartbeats 400000 in
theorem split_any (s : ByteArray) (hs : s.size ≤ 1099511627776) (w : World) :
    Calls Try.prog 30 #[.string s] w fun e w' => e = .returned (.slice (some ⟨w.heap.size, 0, none⟩) (Pl.comps (L s)).length (Pl.comps (L s)).length) ∧
      w'.rowIs w.heap.size 9 (Pl.comps (L s)).length (fun j => .string (S ((Pl.comps (L s)).getD j []))) ∧ Below w.heap.size w w' ∧ w'.heap.size = w.heap.size + 1 := by
  have hN : (Pl.comps (L s)).length ≤ s.size + 1 := by
    rw [Pl.comps_len, ← L_len]; have := List.count_le_length (a := (47 : UInt8)) (l := L s); omega
  have hmk := run_make_row' (P := Try.prog) 37 9 (.string ByteArray.empty) 16 Try.underlying37 info9 rfl .i64 .i64 (Pl.comps (L s)).length (by omega) (by omega)
  go_enter Try.func30, Try.ntmps30
  go_wp2
  go_loop [3, 4] (fun n i => ∃ k : Nat, k ≤ s.size ∧ i = .int .i64 k ∧ n = .int .i64 ((Pl.comps ((L s).take k)).length : Nat)) (fun _ i => s.size - (intOf i).toNat)
  case atStart => exact ⟨0, Nat.zero_le _, rfl, rfl⟩
  case round =>
    obtain ⟨k, hk, rfl, rfl⟩ := hrel
    have hl : (Pl.comps ((L s).take k)).length ≤ k + 1 := by
      rw [Pl.comps_len]
      have h1 := List.count_le_length (a := (47 : UInt8)) (l := (L s).take k)
      have h2 : ((L s).take k).length ≤ k := List.length_take_le _ _
      omega
    by_cases hlt : k < s.size
    · have HT : Hid ((L s).take (k + 1) = (L s).take k ++ [s[k]]) := take_snoc s k hlt
      go_wp2
      · have h47 : (((s[k].toNat : Nat) : Int) == 47) = true := by assumption
        go_round
        case rel => exact ⟨k + 1, by omega, by go_num, by rw [HT.out, byte_yes h47, Pl.len_slash]; go_num⟩
        case measure => simp [intOf]; omega
      · have h47 : (((s[k].toNat : Nat) : Int) == 47) = false := by assumption
        go_round
        case rel => exact ⟨k + 1, by omega, by go_num, by rw [HT.out, Pl.len_other _ _ (byte_no h47)]⟩
        case measure => simp [intOf]; omega
    · have hks : k = s.size := by omega
      subst hks
      have ht : (L s).take s.size = L s := List.take_of_length_le (by rw [L_len]; omega)
      simp only [ht]
      go_wp2
      go_loopw [6, 7, 8] (fun kk st i wr => ∃ k b : Nat, k ≤ s.size ∧ b ≤ k ∧ i = .int .i64 k ∧ st = .int .i64 b ∧ kk = .int .i64 (((Pl.comps ((L s).take k)).length - 1 : Nat) : Int) ∧
          Hid (((L s).take k).drop b = (Pl.comps ((L s).take k)).getD ((Pl.comps ((L s).take k)).length - 1) []) ∧
          wr.rowIs w.heap.size 9 (Pl.comps (L s)).length (rowAt ((L s).take k)) ∧ Below w.heap.size w wr ∧ Hid (wr.heap.size = w.heap.size + 1)) (fun _ _ i _ => s.size - (intOf i).toNat)
      case atStart => exact ⟨0, 0, Nat.zero_le _, Nat.le_refl _, rfl, rfl, rfl, rfl, (World.rowIs_made w _ _ 9).congr (fun j _ => by simp [rowAt, Pl.comps]), (Below.refl _ _).alloc (Nat.le_refl _) _, by simp [Hid]⟩
      case round =>
        obtain ⟨k, b, hk, hb, rfl, rfl, rfl, H1, hrow, hbel, hsz⟩ := hrel
        have hp := Pl.comps_pos ((L s).take k)
        have hle := Pl.comps_take_le (L s) k
        have hc := hrow.cell (i := (Pl.comps ((L s).take k)).length - 1) (by omega)
        have hf := hrow.frozen ((Pl.comps ((L s).take k)).length - 1)
        by_cases hlt : k < s.size
        · have HT : Hid ((L s).take (k + 1) = (L s).take k ++ [s[k]]) := take_snoc s k hlt
          go_wp2
          · have h47 : (((s[k].toNat : Nat) : Int) == 47) = true := by assumption
            have e47 : Hid (s[k] = 47) := byte_yes h47
            go_roundw
            case rel =>
              exact ⟨k + 1, k + 1, by omega, by omega, by go_num, by go_num, by rw [HT.out, e47.out, Pl.len_slash]; go_num,
                by show _ = _; rw [HT.out, e47.out, Pl.len_slash, Nat.add_sub_cancel, Pl.last_slash]; apply List.drop_eq_nil_of_le; simp [L_len]; omega,
                (hrow.set _ _).congr (fun j _ => by rw [HT.out, e47.out]; exact row_slash _ _ (by rw [L_extract]; exact H1.out) j),
                hbel.setCell (Nat.le_refl _) _, by show _ = _; rw [← hsz.out]; simp [World.setCell]⟩
            case measure => simp [intOf]; omega
          · have h47 : (((s[k].toNat : Nat) : Int) == 47) = false := by assumption
            have e47 : Hid (¬ s[k] = 47) := byte_no h47
            go_roundw
            case rel =>
              exact ⟨k + 1, b, by omega, by omega, by go_num, rfl, by rw [HT.out, Pl.len_other _ _ e47.out],
                by show _ = _; rw [HT.out, Pl.len_other _ _ e47.out, Pl.last_other _ _ e47.out, ← H1.out]; exact List.drop_append_of_le_length (by simp [L_len]; omega),
                hrow.congr (fun j _ => by rw [HT.out]; exact row_other _ _ e47.out j), hbel, hsz⟩
            case measure => simp [intOf]; omega
        · have hks : k = s.size := by omega
          subst hks
          simp only [ht] at H1 hrow hp hle hc hf ⊢
          go_wp2
          go_ret
          exact ⟨rfl, (hrow.set _ _).congr (fun j hj => row_done _ _ (by rw [L_extract, ht]; exact H1.out) j hj), hbel.setCell (Nat.le_refl _) _, by rw [← hsz.out]; simp [World.setCell]⟩


theorem str_ne {a b : List UInt8} (h : (!((S a).toList == (S b).toList)) = true) : a ≠ b := by
  simpa [toList_L, L_S] using h
theorem str_eq {a b : List UInt8} (h : (!((S a).toList == (S b).toList)) = false) : a = b := by
  simpa [toList_L, L_S] using h

set_option maxHeartbeats 400000 in
theorem benM_any (p d : ByteArray) (hp : p.size ≤ 1099511627776) (hd : d.size ≤ 1099511627776) (w : World) :
    Calls Try.prog 13 #[.string p, .string d] w fun e w' => e = .returned (.bool (Pl.ben (L p) (L d))) ∧ Below w.heap.size w w' := by
  have hNp : (Pl.comps (L p)).length ≤ p.size + 1 := by
    rw [Pl.comps_len, ← L_len]; have := List.count_le_length (a := (47 : UInt8)) (l := L p); omega
  have hNd : (Pl.comps (L d)).length ≤ d.size + 1 := by
    rw [Pl.comps_len, ← L_len]; have := List.count_le_length (a := (47 : UInt8)) (l := L d); omega
  by_cases hdot : L d = [46]
  · have hd' : (d.toList == [46]) = true := by rw [toList_L, hdot]; rfl
    have HD : Hid (L d = [46]) := hdot
    clear hdot
    go_enter Try.func13, Try.ntmps13
    go_wp2
    go_ret
    exact ⟨ret_bool (by rw [HD.out, Pl.ben_dot, toList_L]; by_cases h2 : L p = [46] <;> simp [h2]), Below.refl _ _⟩
  · have hd' : (d.toList == [46]) = false := by rw [toList_L]; simpa using hdot
    have HD : Hid (¬ L d = [46]) := hdot
    clear hdot
    go_enter Try.func13, Try.ntmps13
    go_wp2_with fail
    refine (split_any p hp _).mono ?_
    rintro e w1 ⟨rfl, hrow1, hbel1, hsz1⟩
    have Hsz1 : Hid (w1.heap.size = w.heap.size + 1) := hsz1
    clear hsz1
    go_wp2_with fail
    refine (split_any d hd _).mono ?_
    rintro e w2 ⟨rfl, hrow2, hbel2, hsz2⟩
    have hrow1' := hrow1.of_block (hbel2.block _ hrow1.lt)
    have hbel : Below w.heap.size w w2 := hbel1.trans (hbel2.mono (by have := Hsz1.out; omega))
    clear hrow1 hbel1 hbel2 hsz2
    by_cases hlen : (Pl.comps (L p)).length ≤ (Pl.comps (L d)).length
    · go_wp2
      go_ret
      exact ⟨ret_bool (Pl.ben_short _ _ HD.out hlen).symm, hbel⟩
    · go_wp2
      go_loopw [7] (fun i wr => ∃ k : Nat, k ≤ (Pl.comps (L d)).length ∧ i = .int .i64 k ∧ Hid (∀ j, j < k → (Pl.comps (L p)).getD j [] = (Pl.comps (L d)).getD j []) ∧
        wr.rowIs w.heap.size 9 (Pl.comps (L p)).length (fun j => .string (S ((Pl.comps (L p)).getD j []))) ∧ wr.rowIs w1.heap.size 9 (Pl.comps (L d)).length (fun j => .string (S ((Pl.comps (L d)).getD j []))) ∧
        Below w.heap.size w wr) (fun i _ => (Pl.comps (L d)).length - (intOf i).toNat)
      case atStart => exact ⟨0, Nat.zero_le _, rfl, fun j hj => absurd hj (Nat.not_lt_zero _), hrow1', hrow2, hbel⟩
      case round =>
        clear hrow1' hrow2 hbel
        obtain ⟨k, hk, rfl, H1, r1, r2, hbel⟩ := hrel
        by_cases hlt : k < (Pl.comps (L d)).length
        · have c1 := r1.cell (i := k) (by omega)
          have c2 := r2.cell (i := k) hlt
          go_wp2
          go_quiet (fail)
          go_wp2
          · have h : (!((S ((Pl.comps (L p))[k]?.getD [])).toList == (S (Pl.comps (L d))[k]).toList)) = true := by assumption
            go_ret
            exact ⟨ret_bool (Pl.ben_parts _ _ HD.out k hlt (by have := str_ne h; simpa [hlt] using this)).symm, below_drewN hbel _⟩
          · have h : (!((S ((Pl.comps (L p))[k]?.getD [])).toList == (S (Pl.comps (L d))[k]).toList)) = false := by assumption
            have e := str_eq h
            go_roundw
            case rel =>
              refine ⟨k + 1, by omega, by go_num, fun j hj => ?_, r1.of_block (by simp), r2.of_block (by simp), below_drewN hbel _⟩
              by_cases hjk : j = k
              · subst hjk; simpa [hlt] using e
              · exact H1.out j (by omega)
            case measure => simp [intOf]; omega
        · go_wp2
          go_ret
          exact ⟨ret_bool (Pl.ben_all _ _ HD.out (by omega) (fun j hj => H1.out j (by omega))).symm, hbel⟩

end Go.Proofs.Qxb6601254a
