import Derived.Test.Qxb6000524aRows
import Derived.WalkKit
import Derived.ProofKit
import Derived.WalkSpells
import Derived.WalkLawsBesides
import Derived.Lib.Strings
import Derived.Lib.IndexBytes
import Derived.Deep.OwnRows
import Derived.Outline
import Derived.BigQuiet
namespace Go.Proofs.Qxb6000524a
open Go.RowKit

/-- The bytes of a string. -/
def L (s : ByteArray) : List UInt8 := s.data.toList
/-- The string of bytes. -/
def S (l : List UInt8) : ByteArray := ⟨l.toArray⟩
theorem L_S (l : List UInt8) : L (S l) = l := by simp [L, S]
theorem S_L (s : ByteArray) : S (L s) = s := Lib.mk_data s
theorem toList_L (s : ByteArray) : s.toList = L s := Lib.toList_data s
theorem toList_S (l : List UInt8) : (S l).toList = l := by rw [toList_L, L_S]
theorem L_len (s : ByteArray) : (L s).length = s.size := (Lib.size_eq s).symm
theorem S_size (l : List UInt8) : (S l).size = l.length := by rw [← L_len, L_S]

/-- THE SLICE VALUE '.slice ao ss.length _' LEADS TO THE STRINGS ss. -/
def IsStrs (w : World) (ao : Option Addr) (ss : List (List UInt8)) : Prop :=
  (∀ s ∈ ss, s.length ≤ maxLen) ∧ ∃ b off, ∀ i s, ss[i]? = some s → ao = some ⟨b, off, none⟩ ∧ b < w.heap.size ∧ w.cell? ⟨b, off + i, none⟩ = some (.string (S s))

/-- THE SLICE VALUE '.slice ao zs.length _' LEADS TO THE NUMBERS zs. -/
def IsNums (w : World) (q : IntKind) (ao : Option Addr) (zs : List Int) : Prop :=
  (∀ z ∈ zs, (Lit.int q z).wf = true) ∧ ∃ b off, ∀ i z, zs[i]? = some z → ao = some ⟨b, off, none⟩ ∧ b < w.heap.size ∧ w.cell? ⟨b, off + i, none⟩ = some (.int q z)

theorem IsStrs.below {w w' : World} {ao : Option Addr} {ss : List (List UInt8)} (h : IsStrs w ao ss) {B : Nat} (hb : Below B w w') (hB : w.heap.size ≤ B) : IsStrs w' ao ss := by
  obtain ⟨hsz, b, off, hc⟩ := h
  refine ⟨hsz, b, off, fun i q hq => ?_⟩
  obtain ⟨h1, h2, h3⟩ := hc i q hq
  exact ⟨h1, Nat.lt_of_lt_of_le h2 hb.size, (hb.cell (p := ⟨b, _, none⟩) (Nat.lt_of_lt_of_le h2 hB)).trans h3⟩

theorem IsNums.below {w w' : World} {q : IntKind} {ao : Option Addr} {zs : List Int} (h : IsNums w q ao zs) {B : Nat} (hb : Below B w w') (hB : w.heap.size ≤ B) : IsNums w' q ao zs := by
  obtain ⟨hsz, b, off, hc⟩ := h
  refine ⟨hsz, b, off, fun i q hq => ?_⟩
  obtain ⟨h1, h2, h3⟩ := hc i q hq
  exact ⟨h1, Nat.lt_of_lt_of_le h2 hb.size, (hb.cell (p := ⟨b, _, none⟩) (Nat.lt_of_lt_of_le h2 hB)).trans h3⟩

theorem info5 : (Try.prog.info? 5).map (fun i => (i.zero, i.size, i.bytes)) = some (some (.int .u8 0), 1, 1) := by kernel_rfl
theorem info34 : (Try.prog.info? 34).map (fun i => (i.zero, i.size, i.bytes)) = some (some (.int .u64 0), 1, 8) := by kernel_rfl
theorem info9 : (Try.prog.info? 9).map (fun i => (i.zero, i.size, i.bytes)) = some (some (.string ByteArray.empty), 1, 16) := by kernel_rfl

/-- What a clone's row holds when k elements have been laid. -/
def numAt (q : IntKind) (zs : List Int) (k j : Nat) : Value := if j < k then .int q (zs.getD j 0) else .int q 0
def strAt (ss : List (List UInt8)) (k j : Nat) : Value := if j < k then .string (S (ss.getD j [])) else .string ByteArray.empty

theorem numAt_next (q : IntKind) (zs : List Int) (k : Nat) (z : Int) (h : zs[k]? = some z) (j : Nat) : (if j = k then .int q z else numAt q zs k j) = numAt q zs (k + 1) j := by
  unfold numAt
  by_cases h1 : j = k
  · subst h1; simp [h]
  · rw [if_neg h1]
    by_cases h2 : j < k
    · have h3 : j < k + 1 := by omega
      rw [if_pos h2, if_pos h3]
    · have h3 : ¬ j < k + 1 := by omega
      rw [if_neg h2, if_neg h3]

theorem strAt_next (ss : List (List UInt8)) (k : Nat) (s : List UInt8) (h : ss[k]? = some s) (j : Nat) : (if j = k then .string (S s) else strAt ss k j) = strAt ss (k + 1) j := by
  unfold strAt
  by_cases h1 : j = k
  · subst h1; simp [h]
  · rw [if_neg h1]
    by_cases h2 : j < k
    · have h3 : j < k + 1 := by omega
      rw [if_pos h2, if_pos h3]
    · have h3 : ¬ j < k + 1 := by omega
      rw [if_neg h2, if_neg h3]

theorem nums_of_row {w : World} {B : Nat} {t : TypeId} {q : IntKind} {zs : List Int} (hsz : ∀ z ∈ zs, (Lit.int q z).wf = true) (h : w.rowIs B t zs.length (numAt q zs zs.length)) : IsNums w q (some ⟨B, 0, none⟩) zs := by
  refine ⟨hsz, B, 0, fun i z hz => ⟨rfl, h.lt, ?_⟩⟩
  obtain ⟨hi, _⟩ := List.getElem?_eq_some_iff.1 hz
  have := h.cell hi
  rw [numAt, if_pos hi] at this
  simpa [hz] using this

theorem strs_of_row {w : World} {B : Nat} {t : TypeId} {ss : List (List UInt8)} (hsz : ∀ s ∈ ss, s.length ≤ maxLen) (h : w.rowIs B t ss.length (strAt ss ss.length)) : IsStrs w (some ⟨B, 0, none⟩) ss := by
  refine ⟨hsz, B, 0, fun i z hz => ⟨rfl, h.lt, ?_⟩⟩
  obtain ⟨hi, _⟩ := List.getElem?_eq_some_iff.1 hz
  have := h.cell hi
  rw [strAt, if_pos hi] at this
  simpa [hz] using this

theorem none_empty_nums {w : World} {q : IntKind} {zs : List Int} (h : IsNums w q none zs) : zs = [] := by
  cases zs with
  | nil => rfl
  | cons z r => obtain ⟨_, b, off, hc⟩ := h; exact absurd (hc 0 z rfl).1 (by simp)
theorem none_empty_strs {w : World} {ss : List (List UInt8)} (h : IsStrs w none ss) : ss = [] := by
  cases ss with
  | nil => rfl
  | cons z r => obtain ⟨_, b, off, hc⟩ := h; exact absurd (hc 0 z rfl).1 (by simp)

set_option maxHeartbeats 400000 in
theorem cloneBytes_any (ao : Option Addr) (cap : Nat) (zs : List Int) (hm : zs.length ≤ 1048576) (w : World) (h : IsNums w .u8 ao zs) :
    Calls Try.prog 20 #[.slice ao zs.length cap] w fun e w' => ∃ ao' cap', e = .returned (.slice ao' zs.length cap') ∧ IsNums w' .u8 ao' zs ∧ Below w.heap.size w w' ∧ w.heap.size ≤ w'.heap.size := by
  cases ao with
  | none =>
    obtain rfl := none_empty_nums h
    have hnil := fun (wx : World) (n c : Nat) => Lib.run_eql_slice_nil (P := Try.prog) wx 37 5 none n c 0 0 Try.underlying37
    go_enter Try.func20, Try.ntmps20
    go_wp2
    go_ret
    exact ⟨none, 0, rfl, h, Below.refl _ _, Nat.le_refl _⟩
  | some ad =>
    have hnil := fun (wx : World) (n c : Nat) => Lib.run_eql_slice_nil (P := Try.prog) wx 37 5 (some ad) n c 0 0 Try.underlying37
    obtain ⟨hsz, b, off, hc⟩ := h
    have hmk := run_make_row' (P := Try.prog) 37 5 (.int .u8 0) 1 Try.underlying37 info5 rfl .i64 .i64 zs.length (by omega) (by omega)
    go_enter Try.func20, Try.ntmps20
    go_wp2
    go_loopw [4] (fun i wr => ∃ k : Nat, k ≤ zs.length ∧ i = .int .i64 k ∧ wr.rowIs w.heap.size 5 zs.length (numAt .u8 zs k) ∧ Below w.heap.size w wr) (fun i _ => zs.length - (intOf i).toNat)
    case atStart => exact ⟨0, Nat.zero_le _, rfl, (World.rowIs_made w _ _ 5).congr (fun j _ => by simp [numAt]), (Below.refl _ _).alloc (Nat.le_refl _) _⟩
    case round =>
      obtain ⟨k, hk, rfl, hrow, hbel⟩ := hrel
      by_cases hlt : k < zs.length
      · obtain ⟨z, hq⟩ : ∃ q, zs[k]? = some q := ⟨zs[k], List.getElem?_eq_getElem hlt⟩
        obtain ⟨had, hb', hc0⟩ := hc k _ hq
        obtain rfl := Option.some.inj had
        have HQ : Hid (zs[k]? = some z) := hq
        clear hc hsz hq had
        have d0 := (hbel.cell (p := ⟨b, off + k, none⟩) hb').trans hc0
        have e0 := hrow.cell (i := k) hlt
        have f0 := hrow.frozen k
        clear hc0
        go_wp2
        go_roundw
        case rel => exact ⟨k + 1, by omega, by go_num, (hrow.set _ _).congr (fun j _ => numAt_next .u8 zs k z HQ.out j), hbel.setCell (p := ⟨w.heap.size, _, none⟩) (Nat.le_refl _) _⟩
        case measure => simp [intOf]; omega
      · have hks : k = zs.length := by omega
        subst hks
        go_wp2
        go_ret
        exact ⟨_, _, rfl, nums_of_row hsz hrow, hbel, hbel.size⟩

set_option maxHeartbeats 400000 in
theorem cloneU64_any (ao : Option Addr) (cap : Nat) (zs : List Int) (hm : zs.length ≤ 1048576) (w : World) (h : IsNums w .u64 ao zs) :
    Calls Try.prog 11 #[.slice ao zs.length cap] w fun e w' => ∃ ao' cap', e = .returned (.slice ao' zs.length cap') ∧ IsNums w' .u64 ao' zs ∧ Below w.heap.size w w' ∧ w.heap.size ≤ w'.heap.size := by
  cases ao with
  | none =>
    obtain rfl := none_empty_nums h
    have hnil := fun (wx : World) (n c : Nat) => Lib.run_eql_slice_nil (P := Try.prog) wx 23 34 none n c 0 0 Try.underlying23
    go_enter Try.func11, Try.ntmps11
    go_wp2
    go_ret
    exact ⟨none, 0, rfl, h, Below.refl _ _, Nat.le_refl _⟩
  | some ad =>
    have hnil := fun (wx : World) (n c : Nat) => Lib.run_eql_slice_nil (P := Try.prog) wx 23 34 (some ad) n c 0 0 Try.underlying23
    obtain ⟨hsz, b, off, hc⟩ := h
    have hmk := run_make_row' (P := Try.prog) 23 34 (.int .u64 0) 8 Try.underlying23 info34 rfl .i64 .i64 zs.length (by omega) (by omega)
    go_enter Try.func11, Try.ntmps11
    go_wp2
    go_loopw [4] (fun i wr => ∃ k : Nat, k ≤ zs.length ∧ i = .int .i64 k ∧ wr.rowIs w.heap.size 34 zs.length (numAt .u64 zs k) ∧ Below w.heap.size w wr) (fun i _ => zs.length - (intOf i).toNat)
    case atStart => exact ⟨0, Nat.zero_le _, rfl, (World.rowIs_made w _ _ 34).congr (fun j _ => by simp [numAt]), (Below.refl _ _).alloc (Nat.le_refl _) _⟩
    case round =>
      obtain ⟨k, hk, rfl, hrow, hbel⟩ := hrel
      by_cases hlt : k < zs.length
      · obtain ⟨z, hq⟩ : ∃ q, zs[k]? = some q := ⟨zs[k], List.getElem?_eq_getElem hlt⟩
        obtain ⟨had, hb', hc0⟩ := hc k _ hq
        obtain rfl := Option.some.inj had
        have HQ : Hid (zs[k]? = some z) := hq
        clear hc hsz hq had
        have d0 := (hbel.cell (p := ⟨b, off + k, none⟩) hb').trans hc0
        have e0 := hrow.cell (i := k) hlt
        have f0 := hrow.frozen k
        clear hc0
        go_wp2
        go_roundw
        case rel => exact ⟨k + 1, by omega, by go_num, (hrow.set _ _).congr (fun j _ => numAt_next .u64 zs k z HQ.out j), hbel.setCell (p := ⟨w.heap.size, _, none⟩) (Nat.le_refl _) _⟩
        case measure => simp [intOf]; omega
      · have hks : k = zs.length := by omega
        subst hks
        go_wp2
        go_ret
        exact ⟨_, _, rfl, nums_of_row hsz hrow, hbel, hbel.size⟩

set_option maxHeartbeats 400000 in
theorem cloneStrings_any (ao : Option Addr) (cap : Nat) (zs : List (List UInt8)) (hm : zs.length ≤ 1048576) (w : World) (h : IsStrs w ao zs) :
    Calls Try.prog 10 #[.slice ao zs.length cap] w fun e w' => ∃ ao' cap', e = .returned (.slice ao' zs.length cap') ∧ IsStrs w' ao' zs ∧ Below w.heap.size w w' ∧ w.heap.size ≤ w'.heap.size := by
  cases ao with
  | none =>
    obtain rfl := none_empty_strs h
    have hnil := fun (wx : World) (n c : Nat) => Lib.run_eql_slice_nil (P := Try.prog) wx 22 9 none n c 0 0 Try.underlying22
    go_enter Try.func10, Try.ntmps10
    go_wp2
    go_ret
    exact ⟨none, 0, rfl, h, Below.refl _ _, Nat.le_refl _⟩
  | some ad =>
    have hnil := fun (wx : World) (n c : Nat) => Lib.run_eql_slice_nil (P := Try.prog) wx 22 9 (some ad) n c 0 0 Try.underlying22
    obtain ⟨hsz, b, off, hc⟩ := h
    have hmk := run_make_row' (P := Try.prog) 22 9 (.string ByteArray.empty) 16 Try.underlying22 info9 rfl .i64 .i64 zs.length (by omega) (by omega)
    go_enter Try.func10, Try.ntmps10
    go_wp2
    go_loopw [4] (fun i wr => ∃ k : Nat, k ≤ zs.length ∧ i = .int .i64 k ∧ wr.rowIs w.heap.size 9 zs.length (strAt zs k) ∧ Below w.heap.size w wr) (fun i _ => zs.length - (intOf i).toNat)
    case atStart => exact ⟨0, Nat.zero_le _, rfl, (World.rowIs_made w _ _ 9).congr (fun j _ => by simp [strAt]), (Below.refl _ _).alloc (Nat.le_refl _) _⟩
    case round =>
      obtain ⟨k, hk, rfl, hrow, hbel⟩ := hrel
      by_cases hlt : k < zs.length
      · obtain ⟨z, hq⟩ : ∃ q, zs[k]? = some q := ⟨zs[k], List.getElem?_eq_getElem hlt⟩
        obtain ⟨had, hb', hc0⟩ := hc k _ hq
        obtain rfl := Option.some.inj had
        have HQ : Hid (zs[k]? = some z) := hq
        clear hc hsz hq had
        have d0 := (hbel.cell (p := ⟨b, off + k, none⟩) hb').trans hc0
        have e0 := hrow.cell (i := k) hlt
        have f0 := hrow.frozen k
        clear hc0
        go_wp2
        go_roundw
        case rel => exact ⟨k + 1, by omega, by go_num, (hrow.set _ _).congr (fun j _ => strAt_next zs k z HQ.out j), hbel.setCell (p := ⟨w.heap.size, _, none⟩) (Nat.le_refl _) _⟩
        case measure => simp [intOf]; omega
      · have hks : k = zs.length := by omega
        subst hks
        go_wp2
        go_ret
        exact ⟨_, _, rfl, strs_of_row hsz hrow, hbel, hbel.size⟩
end Go.Proofs.Qxb6000524a
