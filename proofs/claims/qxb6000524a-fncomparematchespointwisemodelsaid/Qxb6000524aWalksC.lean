import Derived.Test.Qxb6000524aWalksB
import Derived.Maps.OwnSet
import Derived.Maps.OwnOps
import Derived.Maps.RangeWalk
namespace Go.Proofs.Qxb6000524a
open Go.RowKit Go.Maps

theorem zip_at {ks : List (List UInt8)} {vs : List Int} {k : Nat} {p : Pl.Pr} (h : (ks.zip vs)[k]? = some p) : ks[k]? = some p.1 ∧ vs[k]? = some p.2 := by
  rw [List.getElem?_zip_eq_some] at h
  exact h

set_option maxHeartbeats 400000 in
theorem lastValue_any (ao bo : Option Addr) (ca cb : Nat) (ks : List (List UInt8)) (vs : List Int) (h : List UInt8) (hk1 : ks.length ≤ 1048576) (w : World) (h1 : IsStrs w ao ks) (h2 : IsNums w .u64 bo vs) :
    Calls Try.prog 17 #[.slice ao ks.length ca, .slice bo vs.length cb, .int .i64 ((ks.zip vs).length : Nat), .string (S h)] w fun e w' => e = .returned (.int .u64 (Pl.lv (ks.zip vs) h)) ∧ w' = w := by
  obtain ⟨hsz, b, off, hc⟩ := h1
  obtain ⟨hsz2, b2, off2, hc2⟩ := h2
  obtain ⟨ps, hps⟩ : ∃ ps, ps = ks.zip vs := ⟨_, rfl⟩
  have HP : Hid (ps = ks.zip vs) := hps
  rw [← hps]
  have hlp : ps.length ≤ ks.length ∧ ps.length ≤ vs.length := by rw [hps, List.length_zip]; omega
  obtain ⟨hl1, hl2⟩ := hlp
  clear hps
  go_enter Try.func17, Try.ntmps17
  go_wp2
  go_loop [9, 10] (fun x i => ∃ k : Nat, k ≤ ps.length ∧ i = .int .i64 k ∧ x = .int .u64 (Pl.lv (ps.take k) h)) (fun _ i => ps.length - (intOf i).toNat)
  case atStart => exact ⟨0, Nat.zero_le _, rfl, rfl⟩
  case round =>
    obtain ⟨k, hk, rfl, rfl⟩ := hrel
    by_cases hlt : k < ps.length
    · obtain ⟨⟨s, v⟩, hq⟩ : ∃ q, ps[k]? = some q := ⟨ps[k], List.getElem?_eq_getElem hlt⟩
      have hq2 := hq
      rw [HP.out] at hq2
      obtain ⟨g1, g2⟩ := zip_at hq2
      obtain ⟨rfl, hb', hc0⟩ := hc k _ g1
      obtain ⟨rfl, hb2', hc1⟩ := hc2 k _ g2
      have HQ : Hid (Pl.lv (ps.take (k + 1)) h = if s = h then v else Pl.lv (ps.take k) h) := Pl.lv_take ps k (s, v) hq h
      clear hc hsz hc2 hsz2 hq hq2 g1 g2
      simp only [] at hc0 hc1
      have hlk : k < ks.length := by omega
      have hlv : k < vs.length := by omega
      by_cases hs : s = h
      · have g : ((S s).toList == (S h).toList) = true := by rw [toList_S, toList_S, hs]; simp
        rw [if_pos hs] at HQ
        clear hs
        go_wp2
        go_round
        case rel => exact ⟨k + 1, by omega, by go_num, by rw [HQ.out]⟩
        case measure => simp [intOf]; omega
      · have g : ((S s).toList == (S h).toList) = false := by rw [toList_S, toList_S]; simpa using hs
        rw [if_neg hs] at HQ
        clear hs
        go_wp2
        go_round
        case rel => exact ⟨k + 1, by omega, by go_num, by rw [HQ.out]⟩
        case measure => simp [intOf]; omega
    · have hks : k = ps.length := by omega
      subst hks
      rw [List.take_length]
      go_wp2
      go_ret
      exact ⟨rfl, rfl⟩

theorem law9 : Keyed Try.prog 9 := string_keyed Try.underlying9
theorem zero34 (w : World) : (zeroValue 34).run Try.prog w = .ok (.int .u64 0) w := by kernel_rfl
theorem make29 (n : Int) (w : World) : (Instr.makeMap 29 (some (.int .i64 n))).run Try.prog w = .ok (.map (some w.heap.size)) (w.alloc (.map #[] 0)) := by
  simp [Instr.makeMap, run_underlying Try.underlying29, asInt, asIntOf, Result.andThen]
theorem keyS (l : List UInt8) (h : l.length ≤ maxLen) : keyOf Try.prog 9 (.string (S l)) = some (.string l) := by
  have := Go.WideMaps.keyOf_string_mk Try.underlying9 (s := S l) (by rw [S_size]; exact h)
  rw [this]
  exact congrArg some (congrArg Lit.string (L_S l))

/-- The datum D reads, key by key, as the last counts of the pairs ps. -/
def Good (D : DataW Unit) (ps : List Pl.Pr) : Prop :=
  ∀ l, Maps.has D (.string l) = (Pl.lvO ps l).isSome ∧ D.atKey (.string l) (.lit (.int .u64 0)) = .lit (.int .u64 (Pl.lv ps l))

theorem good_nil : Good (.map []) [] := fun _ => ⟨rfl, rfl⟩

theorem good_put {D : DataW Unit} {ps : List Pl.Pr} (hD : IsMap D) (h : Good D ps) (s : List UInt8) (v : Int) : Good (D.put (.string s) (.lit (.int .u64 v))) (ps ++ [(s, v)]) := by
  intro l
  unfold Pl.lv
  rw [Pl.lvO_snoc]
  by_cases e : s = l
  · subst e
    rw [if_pos rfl]
    exact ⟨has_put_same hD (k := .string s) trivial _, atKey_put_same hD (k := .string s) trivial _ _⟩
  · rw [if_neg e, has_put_other (fun x => e (Lit.string.inj x).symm), atKey_put_other (fun x => e (Lit.string.inj x).symm)]
    exact h l

/-- BLOCK b IS A CLOCK THAT HOLDS THE PAIRS ps. -/
def IsClock (w : World) (b : Nat) (ps : List Pl.Pr) : Prop := ∃ (D : DataW Unit) (n : Nat), w.ownsMap Try.prog 9 (plainElem Try.prog 34) b n D ∧ n ≤ 2097152 ∧ Good D ps


set_option maxHeartbeats 400000 in
theorem build_any (ao bo : Option Addr) (ca cb : Nat) (ks : List (List UInt8)) (vs : List Int) (hk1 : ks.length ≤ 1048576) (hv1 : vs.length ≤ 1048576) (w : World) (h1 : IsStrs w ao ks) (h2 : IsNums w .u64 bo vs) :
    Calls Try.prog 12 #[.slice ao ks.length ca, .slice bo vs.length cb] w fun e w' => e = .returned (.map (some w.heap.size)) ∧ IsClock w' w.heap.size (ks.zip vs) ∧ Below w.heap.size w w' := by
  obtain ⟨hsz, b, off, hc⟩ := h1
  obtain ⟨hsz2, b2, off2, hc2⟩ := h2
  obtain ⟨ps, hps⟩ : ∃ ps, ps = ks.zip vs := ⟨_, rfl⟩
  have HP : Hid (ps = ks.zip vs) := hps
  have HL : Hid (min ks.length vs.length = ps.length) := by rw [hps, List.length_zip]; rfl
  rw [← hps]
  have hlp : ps.length ≤ ks.length ∧ ps.length ≤ vs.length := by rw [hps, List.length_zip]; omega
  obtain ⟨hl1, hl2⟩ := hlp
  clear hps
  have hmk := make29
  go_enter Try.func12, Try.ntmps12
  go_wp2_with fail
  refine (pairCount_any ao bo ca cb ks.length vs.length (by unfold maxLen; omega) (by unfold maxLen; omega) _).mono ?_
  rintro e w' ⟨rfl, rfl⟩
  rw [HL.out]
  go_wp2
  go_loopw [7] (fun i wr => ∃ (k : Nat) (D : DataW Unit), k ≤ ps.length ∧ i = .int .i64 k ∧ wr.ownsMap Try.prog 9 (plainElem Try.prog 34) w'.heap.size k D ∧ Good D (ps.take k) ∧ Below w'.heap.size w' wr) (fun i _ => ps.length - (intOf i).toNat)
  case atStart => exact ⟨0, .map [], Nat.zero_le _, rfl, World.ownsMap_made _ _ _ _, good_nil, (Below.refl _ _).alloc (Nat.le_refl _) _⟩
  case round =>
    obtain ⟨k, D, hk, rfl, hown, hgood, hbel⟩ := hrel
    by_cases hlt : k < ps.length
    · obtain ⟨⟨s, v⟩, hq⟩ : ∃ q, ps[k]? = some q := ⟨ps[k], List.getElem?_eq_getElem hlt⟩
      have hq2 := hq
      rw [HP.out] at hq2
      obtain ⟨g1, g2⟩ := zip_at hq2
      obtain ⟨rfl, hb', hc0⟩ := hc k _ g1
      obtain ⟨rfl, hb2', hc1⟩ := hc2 k _ g2
      have hs0 := hsz _ (List.mem_of_getElem? g1)
      have hv0 := hsz2 _ (List.mem_of_getElem? g2)
      have HQ : Hid (ps.take (k + 1) = ps.take k ++ [(s, v)]) := by show _ = _; rw [List.take_add_one, hq]; rfl
      clear hc hsz hc2 hsz2 hq hq2 g1 g2
      simp only [] at hc0 hc1 hs0 hv0
      have d0 := (hbel.cell (p := ⟨b, off + k, none⟩) hb').trans hc0
      have d1 := (hbel.cell (p := ⟨b2, off2 + k, none⟩) hb2').trans hc1
      clear hc0 hc1
      have hlk : k < ks.length := by omega
      have hlv : k < vs.length := by omega
      obtain ⟨w1, hrun, hown1, hgrow⟩ := hown.drew.update law9 Try.underlying29 (by unfold maxLen; omega) (keyS s hs0) (plainElem_int Try.underlying34 hv0)
      have HR : Hid (w1.ownsMap Try.prog 9 (plainElem Try.prog 34) w'.heap.size (k + 1) (D.put (.string s) (.lit (.int .u64 v))) ∧ Below w'.heap.size w' w1 ∧ Good (D.put (.string s) (.lit (.int .u64 v))) (ps.take (k + 1))) :=
        ⟨hown1, hbel.drew.grown hgrow hbel.size (fun j hj => by cases hj; exact Nat.le_refl _), by rw [HQ.out]; exact good_put hown.isMap hgood s v⟩
      clear hown1 hgrow hown hgood
      go_wp2
      go_region
      all_goals go_wp2
      go_roundw
      case rel => exact ⟨k + 1, _, by omega, by go_num, HR.out.1, HR.out.2.2, HR.out.2.1⟩
      case measure => simp [intOf]; omega
    · have hks : k = ps.length := by omega
      subst hks
      rw [List.take_length] at hgood
      go_wp2
      go_ret
      exact ⟨rfl, ⟨D, _, hown, by omega, hgood⟩, hbel⟩
end Go.Proofs.Qxb6000524a
