import Derived.Test.Qxb6000524aWalksB
import Derived.Deep.QuietTactic
namespace Go.Proofs.Qxb6000524a
open Go.RowKit


set_option maxHeartbeats 400000 in
theorem cloneB_any (ao : Option Addr) (cap : Nat) (zs : List Int) (hm : zs.length ≤ 1048576) (w : World) (h : IsNums w .u8 ao zs) :
    Calls Try.prog 20 #[.slice ao zs.length cap] w fun e w' => ∃ ao' cap', e = .returned (.slice ao' zs.length cap') ∧ IsNums w' .u8 ao' zs ∧ Below w.heap.size w w' ∧ zs.length ≤ cap' ∧ cap' ≤ 1048576 ∧ (ao' = none → cap' = 0) := by
  cases ao with
  | none =>
    obtain rfl := none_empty_nums h
    have hnil := fun (wx : World) (n c : Nat) => Lib.run_eql_slice_nil (P := Try.prog) wx 37 5 none n c 0 0 Try.underlying37
    go_enter Try.func20, Try.ntmps20
    go_wp2
    go_ret
    exact ⟨none, 0, rfl, h, Below.refl _ _, by simp, by omega, fun _ => rfl⟩
  | some ad =>
    have hnil := fun (wx : World) (n c : Nat) => Lib.run_eql_slice_nil (P := Try.prog) wx 37 5 (some ad) n c 0 0 Try.underlying37
    obtain ⟨hsz, b, off, hc⟩ := h
    have hmk := run_make_row' (P := Try.prog) 37 5 (.int .u8 0) 1 Try.underlying37 info5 rfl .i64 .i64 zs.length (by omega) (by omega)
    go_enter Try.func20, Try.ntmps20
    go_wp2
    go_loopw [4] (fun i wr => ∃ k : Nat, k ≤ zs.length ∧ i = .int .i64 k ∧ wr.rowIs w.heap.size 5 zs.length (numAt .u8 zs k) ∧ Below w.heap.size w wr) (fun i _ => zs.length - (intOf i).toNat)
    case atStart => exact ⟨0, Nat.zero_le _, rfl, (World.rowIs_made w _ _ 5).congr (fun j _ => by simp [numAt]), (Below.refl _ _).alloc (Nat.le_refl _) _⟩
    case round =>
      obtain ⟨k, hk, rfl, hrow, hbel⟩ := hrel
      by_cases hlt : k < zs.length
      · obtain ⟨z, hq⟩ : ∃ q, zs[k]? = some q := ⟨zs[k], List.getElem?_eq_getElem hlt⟩
        obtain ⟨had, hb', hc0⟩ := hc k _ hq
        obtain rfl := Option.some.inj had
        have HQ : Hid (zs[k]? = some z) := hq
        clear hc hsz hq had
        have d0 := (hbel.cell (p := ⟨b, off + k, none⟩) hb').trans hc0
        have e0 := hrow.cell (i := k) hlt
        have f0 := hrow.frozen k
        clear hc0
        go_wp2
        go_roundw
        case rel => exact ⟨k + 1, by omega, by go_num, (hrow.set _ _).congr (fun j _ => numAt_next .u8 zs k z HQ.out j), hbel.setCell (p := ⟨w.heap.size, _, none⟩) (Nat.le_refl _) _⟩
        case measure => simp [intOf]; omega
      · have hks : k = zs.length := by omega
        subst hks
        go_wp2
        go_ret
        exact ⟨_, _, rfl, nums_of_row hsz hrow, hbel, Nat.le_refl _, hm, fun h => by cases h⟩

/-- THE SLICE VALUE '.slice ao zs.length _' LEADS TO THE NUMBERS zs, in a block below X. -/
def NumsB (w : World) (X : Nat) (q : IntKind) (ao : Option Addr) (zs : List Int) : Prop :=
  (∀ z ∈ zs, (Lit.int q z).wf = true) ∧ ∃ b off, ∀ i z, zs[i]? = some z → ao = some ⟨b, off, none⟩ ∧ b < X ∧ w.cell? ⟨b, off + i, none⟩ = some (.int q z)

theorem NumsB.plain {w : World} {X : Nat} {q : IntKind} {ao : Option Addr} {zs : List Int} (h : NumsB w X q ao zs) (hX : X ≤ w.heap.size) : IsNums w q ao zs := by
  obtain ⟨h1, b, off, hc⟩ := h
  exact ⟨h1, b, off, fun i z hz => ⟨(hc i z hz).1, Nat.lt_of_lt_of_le (hc i z hz).2.1 hX, (hc i z hz).2.2⟩⟩

theorem IsNums.bound {w : World} {q : IntKind} {ao : Option Addr} {zs : List Int} (h : IsNums w q ao zs) : NumsB w w.heap.size q ao zs := h

theorem NumsB.below {w w' : World} {X : Nat} {q : IntKind} {ao : Option Addr} {zs : List Int} (h : NumsB w X q ao zs) {B : Nat} (hb : Below B w w') (hB : X ≤ B) : NumsB w' X q ao zs := by
  obtain ⟨hsz, b, off, hc⟩ := h
  refine ⟨hsz, b, off, fun i q hq => ?_⟩
  obtain ⟨h1, h2, h3⟩ := hc i q hq
  exact ⟨h1, h2, (hb.cell (p := ⟨b, _, none⟩) (Nat.lt_of_lt_of_le h2 hB)).trans h3⟩

theorem NumsB.take {w : World} {X : Nat} {q : IntKind} {ao : Option Addr} {zs : List Int} (h : NumsB w X q ao zs) (n : Nat) : NumsB w X q ao (zs.take n) := by
  obtain ⟨hsz, b, off, hc⟩ := h
  refine ⟨fun z hz => hsz z (List.mem_of_mem_take hz), b, off, fun i z hz => hc i z ?_⟩
  rw [List.getElem?_take] at hz
  split at hz
  · exact hz
  · cases hz

/-- Where 'x[n:]' begins. -/
def cutA (ao : Option Addr) (n c : Nat) : Option Addr := if c = n then ao else ao.map (·.add n)

theorem cutA_none (n c : Nat) : cutA none n c = none := by unfold cutA; split <;> rfl
theorem cutA_end (ad : Addr) (n : Nat) : cutA (some ad) n n = some ad := by simp [cutA]
theorem cutA_mid (ad : Addr) (n c : Nat) (h : ¬ c = n) : cutA (some ad) n c = some (ad.add n) := by simp [cutA, h]

theorem NumsB.cut {w : World} {X : Nat} {q : IntKind} {ao : Option Addr} {zs : List Int} (h : NumsB w X q ao zs) (n c : Nat) (hc : zs.length ≤ c) : NumsB w X q (cutA ao n c) (zs.drop n) := by
  obtain ⟨hsz, b, off, hcell⟩ := h
  refine ⟨fun z hz => hsz z (List.mem_of_mem_drop hz), b, off + n, fun i z hz => ?_⟩
  rw [List.getElem?_drop] at hz
  obtain ⟨h1, h2, h3⟩ := hcell (n + i) z hz
  have hlt := (List.getElem?_eq_some_iff.1 hz).1
  subst h1
  rw [cutA_mid _ _ _ (by omega), Go.WideShapes.add_plain]
  exact ⟨rfl, h2, by rw [Nat.add_assoc]; exact h3⟩

theorem cutA_nil {ao : Option Addr} {n c : Nat} (h : ao = none → c = 0) (hh : cutA ao n c = none) : c - n = 0 := by
  cases ao with
  | none => have := h rfl; omega
  | some ad => unfold cutA at hh; split at hh <;> simp at hh

theorem grown_setCell (w : World) (R : Nat) (v : Value) : w.grownBy (w.setCell ⟨R, 0, none⟩ v) (some R) :=
  ⟨rfl, rfl, rfl, by simp [World.setCell], fun k _ hk => by simp only [World.setCell, Array.getElem?_modify]; rw [if_neg (fun e => hk (by rw [e]))]⟩

/-- What a read of n bytes leaves: the reader's cell stands at what is left. -/
def Moved (R : Nat) (V : Value) (w w' : World) : Prop := w.grownBy w' (some R) ∧ w'.cell? ⟨R, 0, none⟩ = some V ∧ w'.frozen? ⟨R, 0, none⟩ = false ∧ w'.heap.size = w.heap.size

theorem moved_set {R : Nat} {V x : Value} {w : World} (h1 : w.cell? ⟨R, 0, none⟩ = some x) (h2 : w.frozen? ⟨R, 0, none⟩ = false) : Moved R V w (w.setCell ⟨R, 0, none⟩ V) :=
  ⟨grown_setCell w R V, World.cell?_setCell_same _ _ _ h1, by rw [World.frozen?_setCell]; exact h2, by simp [World.setCell]⟩

set_option maxHeartbeats 400000 in
theorem next_yes (R : Nat) (ao : Option Addr) (m c n : Nat) (hn : n ≤ m) (hm : m ≤ c) (hc : c ≤ 1048576) (hz : ao = none → c = 0) (w : World) (h1 : w.cell? ⟨R, 0, none⟩ = some (.slice ao m c)) (h2 : w.frozen? ⟨R, 0, none⟩ = false) :
    Calls Try.prog 26 #[.pointer (some ⟨R, 0, none⟩), .int .u64 n] w fun e w' => e = .returned (.tuple #[.slice ao n c, .bool true]) ∧ Moved R (.slice (cutA ao n c) (m - n) (c - n)) w w' := by
  cases ao with
  | none =>
    obtain rfl := hz rfl
    obtain rfl : m = 0 := by omega
    obtain rfl : n = 0 := by omega
    clear hz
    rw [cutA_none]
    have HM := moved_set (V := .slice none 0 0) h1 h2
    go_enter Try.func26, Try.ntmps26
    go_wp2
    go_ret2
    exact ⟨rfl, HM⟩
  | some ad =>
    clear hz
    by_cases hcn : c = n
    · subst hcn
      obtain rfl : m = c := by omega
      rw [cutA_end, Nat.sub_self]
      have HM := moved_set (V := .slice (some ad) 0 0) h1 h2
      go_enter Try.func26, Try.ntmps26
      go_wp2
      go_ret2
      exact ⟨rfl, HM⟩
    · rw [cutA_mid _ _ _ hcn]
      have HM := moved_set (V := .slice (some (ad.add n)) (m - n) (c - n)) h1 h2
      go_enter Try.func26, Try.ntmps26
      go_wp2
      go_ret2
      exact ⟨rfl, HM⟩

set_option maxHeartbeats 400000 in
theorem next_no (R : Nat) (ao : Option Addr) (m c : Nat) (z : Int) (hz : (m : Int) < z) (hm : m ≤ 1048576) (w : World) (h1 : w.cell? ⟨R, 0, none⟩ = some (.slice ao m c)) :
    Calls Try.prog 26 #[.pointer (some ⟨R, 0, none⟩), .int .u64 z] w fun e w' => e = .returned (.tuple #[.slice none 0 0, .bool false]) ∧ w' = w := by
  go_enter Try.func26, Try.ntmps26
  go_wp2
  go_ret2
  exact ⟨rfl, rfl⟩

theorem znext_yes (R : Nat) (ao : Option Addr) (m c n : Nat) (hn : n ≤ m) (hm : m ≤ c) (hc : c ≤ 1048576) (hz : ao = none → c = 0) (w : World) (h1 : w.cell? ⟨R, 0, none⟩ = some (.slice ao m c)) (h2 : w.frozen? ⟨R, 0, none⟩ = false) :
    Calls Try.prog 23 #[.pointer (some ⟨R, 0, none⟩), .int .u64 n] w fun e w' => e = .returned (.tuple #[.slice ao n c, .bool true]) ∧ Moved R (.slice (cutA ao n c) (m - n) (c - n)) w w' := by
  go_enter Try.func23, Try.ntmps23
  go_wp2_with fail
  refine (next_yes R ao m c n hn hm hc hz _ h1 h2).mono ?_
  rintro e w' ⟨rfl, HM⟩
  go_wp2
  go_ret2
  exact ⟨rfl, HM⟩

theorem znext_no (R : Nat) (ao : Option Addr) (m c : Nat) (z : Int) (hz : (m : Int) < z) (hm : m ≤ 1048576) (w : World) (h1 : w.cell? ⟨R, 0, none⟩ = some (.slice ao m c)) :
    Calls Try.prog 23 #[.pointer (some ⟨R, 0, none⟩), .int .u64 z] w fun e w' => e = .returned (.tuple #[.slice none 0 0, .bool false]) ∧ w' = w := by
  go_enter Try.func23, Try.ntmps23
  go_wp2_with fail
  refine (next_no R ao m c z hz hm _ h1).mono ?_
  rintro e w' ⟨rfl, rfl⟩
  go_wp2
  go_ret2
  exact ⟨rfl, rfl⟩

theorem rest_any (R : Nat) (ao : Option Addr) (m c : Nat) (w : World) (h1 : w.cell? ⟨R, 0, none⟩ = some (.slice ao m c)) :
    Calls Try.prog 22 #[.pointer (some ⟨R, 0, none⟩)] w fun e w' => e = .returned (.slice ao m c) ∧ w' = w := by
  go_enter Try.func22, Try.ntmps22
  go_wp2
  go_ret
  exact ⟨rfl, rfl⟩

theorem new_any (ao : Option Addr) (m c : Nat) (w : World) :
    Calls Try.prog 21 #[.slice ao m c] w fun e w' => e = .returned (.pointer (some ⟨w.heap.size, 0, none⟩)) ∧ w' = w.alloc (.cells #[.slice ao m c] 49) := by
  go_enter Try.func21, Try.ntmps21
  go_wp2
  go_ret
  exact ⟨rfl, rfl⟩

set_option maxHeartbeats 400000 in
theorem same_any (a1 a2 : Option Addr) (c1 c2 n1 n2 : Nat) (zs : List Int) (hn1 : n1 = zs.length) (hn2 : n2 = zs.length) (hm : zs.length ≤ 1048576) (w : World) (h1 : IsNums w .u8 a1 zs) (h2 : IsNums w .u8 a2 zs) :
    Calls Try.prog 24 #[.slice a1 n1 c1, .slice a2 n2 c2] w fun e w' => e = .returned (.bool true) ∧ ∃ k, w' = w.drewN k := by
  subst hn1 hn2
  obtain ⟨hsz, b, off, hc⟩ := h1
  obtain ⟨_, b2, off2, hc2⟩ := h2
  go_enter Try.func24, Try.ntmps24
  go_wp2
  go_loopw [5] (fun i wr => ∃ k d : Nat, k ≤ zs.length ∧ i = .int .i64 k ∧ wr = w.drewN d) (fun i _ => zs.length - (intOf i).toNat)
  case atStart => exact ⟨0, 0, Nat.zero_le _, rfl, rfl⟩
  case round =>
    obtain ⟨k, d, hk, rfl, rfl⟩ := hrel
    by_cases hlt : k < zs.length
    · obtain ⟨z, hq⟩ : ∃ q, zs[k]? = some q := ⟨zs[k], List.getElem?_eq_getElem hlt⟩
      obtain ⟨rfl, hb', hc0⟩ := hc k _ hq
      obtain ⟨rfl, hb2', hc1⟩ := hc2 k _ hq
      clear hc hc2 hsz hq
      go_wp2
      go_quiet (fail)
      go_wp2
      go_roundw
      case rel => exact ⟨k + 1, _, by omega, by go_num, rfl⟩
      case measure => simp [intOf]; omega
    · go_wp2
      go_ret
      exact ⟨rfl, _, rfl⟩
end Go.Proofs.Qxb6000524a
