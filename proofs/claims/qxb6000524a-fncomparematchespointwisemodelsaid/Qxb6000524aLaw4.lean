import Derived.Test.Qxb6000524aWalksD
namespace Go.Proofs.Qxb6000524a
open Go.RowKit Go.Maps

theorem pc_any (ao bo : Option Addr) (ca cb : Nat) (ks : List (List UInt8)) (vs : List Int) (ps : List Pl.Pr) (hps : ps = ks.zip vs) (hm : ks.length ≤ maxLen) (hn : vs.length ≤ maxLen) (w : World) :
    Calls Try.prog 16 #[.slice ao ks.length ca, .slice bo vs.length cb] w fun e w' => e = .returned (.int .i64 (ps.length : Nat)) ∧ w' = w := by
  have e : ps.length = min ks.length vs.length := by rw [hps, List.length_zip]
  rw [e]
  exact pairCount_any ao bo ca cb ks.length vs.length hm hn w

theorem lv_any (ao bo : Option Addr) (ca cb : Nat) (ks : List (List UInt8)) (vs : List Int) (ps : List Pl.Pr) (hps : ps = ks.zip vs) (h : List UInt8) (hk1 : ks.length ≤ 1048576) (w : World) (h1 : IsStrs w ao ks) (h2 : IsNums w .u64 bo vs) :
    Calls Try.prog 17 #[.slice ao ks.length ca, .slice bo vs.length cb, .int .i64 (ps.length : Nat), .string (S h)] w fun e w' => e = .returned (.int .u64 (Pl.lv ps h)) ∧ w' = w := by
  subst hps
  exact lastValue_any ao bo ca cb ks vs h hk1 w h1 h2

theorem asked_lo1 {ps qs ms ks : List Pl.Pr} {k : Nat} {lo hi : Bool} {p : Pl.Pr} (h : Pl.Asked ps qs (ms ++ ks.take k) lo hi) (hp : ks[k]? = some p) (hl : Pl.lv ps p.1 < Pl.lv qs p.1) : Pl.Asked ps qs (ms ++ ks.take (k + 1)) true hi := by
  have := Pl.asked_take h hp
  rw [decide_eq_true hl, decide_eq_false (by omega : ¬ Pl.lv qs p.1 < Pl.lv ps p.1), Bool.or_true, Bool.or_false] at this
  exact this
theorem asked_hi1 {ps qs ms ks : List Pl.Pr} {k : Nat} {lo hi : Bool} {p : Pl.Pr} (h : Pl.Asked ps qs (ms ++ ks.take k) lo hi) (hp : ks[k]? = some p) (hl : Pl.lv qs p.1 < Pl.lv ps p.1) : Pl.Asked ps qs (ms ++ ks.take (k + 1)) lo true := by
  have := Pl.asked_take h hp
  rw [decide_eq_true hl, decide_eq_false (by omega : ¬ Pl.lv ps p.1 < Pl.lv qs p.1), Bool.or_true, Bool.or_false] at this
  exact this
theorem asked_eq1 {ps qs ms ks : List Pl.Pr} {k : Nat} {lo hi : Bool} {p : Pl.Pr} (h : Pl.Asked ps qs (ms ++ ks.take k) lo hi) (hp : ks[k]? = some p) (h1 : ¬ Pl.lv ps p.1 < Pl.lv qs p.1) (h2 : ¬ Pl.lv qs p.1 < Pl.lv ps p.1) : Pl.Asked ps qs (ms ++ ks.take (k + 1)) lo hi := by
  have := Pl.asked_take h hp
  rw [decide_eq_false h1, decide_eq_false h2, Bool.or_false, Bool.or_false] at this
  exact this

theorem zip_nonneg {ks : List (List UInt8)} {vs : List Int} {w : World} {bo : Option Addr} (h : IsNums w .u64 bo vs) : ∀ p ∈ ks.zip vs, 0 ≤ p.2 := by
  intro p hp
  exact (bounds_u64 (h.1 p.2 (List.of_mem_zip hp).2)).1

set_option maxHeartbeats 4000000 in
/-- FnCompareMatchesPointwiseModel. -/
theorem law4 (ao bo co eo : Option Addr) (ca cb cc ce : Nat) (ks ls : List (List UInt8)) (vs us : List Int) (hk : ks.length ≤ maxLen) (hv : vs.length ≤ maxLen) (hl : ls.length ≤ maxLen) (hu : us.length ≤ maxLen)
    (w : World) (h1 : IsStrs w ao ks) (h2 : IsNums w .u64 bo vs) (h3 : IsStrs w co ls) (h4 : IsNums w .u64 eo us) :
    Calls Try.prog 4 #[.slice ao ks.length ca, .slice bo vs.length cb, .slice co ls.length cc, .slice eo us.length ce] w fun e w' => e = .returned (.bool true) ∧ Below w.heap.size w w' := by
  obtain ⟨ps, hps⟩ : ∃ ps, ps = ks.zip vs := ⟨_, rfl⟩
  obtain ⟨qs, hqs⟩ : ∃ qs, qs = ls.zip us := ⟨_, rfl⟩
  have HP : Hid (ps = ks.zip vs) := hps
  have HQ : Hid (qs = ls.zip us) := hqs
  have hn1 : ∀ p ∈ ps, 0 ≤ p.2 := by rw [hps]; exact zip_nonneg h2
  have hn2 : ∀ p ∈ qs, 0 ≤ p.2 := by rw [hqs]; exact zip_nonneg h4
  have HN1 : Hid (∀ p ∈ ps, 0 ≤ p.2) := hn1
  have HN2 : Hid (∀ p ∈ qs, 0 ≤ p.2) := hn2
  have hlp : ps.length ≤ ks.length ∧ ps.length ≤ vs.length := by rw [hps, List.length_zip]; omega
  have hlq : qs.length ≤ ls.length ∧ qs.length ≤ us.length := by rw [hqs, List.length_zip]; omega
  obtain ⟨hlp1, hlp2⟩ := hlp
  obtain ⟨hlq1, hlq2⟩ := hlq
  clear hps hqs hn1 hn2
  go_enter Try.func4, Try.ntmps4
  go_wp2_with fail
  refine (zz15_any ao bo co eo ca cb cc ce vs.length us.length ks ls hk hl hv hu _ h1 h3).mono ?_
  rintro e w' ⟨r, rfl, rfl, hr⟩
  cases r with
  | false =>
    clear hr
    go_wp2
    go_ret
    exact ⟨rfl, Below.refl _ _⟩
  | true =>
    obtain ⟨hsk, hsl, hk2, hl2, hv2, hu2⟩ := hr rfl
    clear hr
    go_wp2_with fail
    refine (clockBytes_any ao bo ca cb vs.length ks hk hv hsk _ h1).mono ?_
    rintro e w2 ⟨t1, rfl, ht10, ht11, rfl⟩
    by_cases g1 : t1 ≤ 1048576
    · go_wp2_with fail
      refine (clockBytes_any co eo cc ce us.length ls hl hu hsl _ h3).mono ?_
      rintro e w2 ⟨t2, rfl, ht20, ht21, rfl⟩
      by_cases g2 : t2 ≤ 1048576
      · go_wp2_with fail
        refine (clockBytes_any ao bo ca cb vs.length ks hk hv hsk _ h1).mono ?_
        rintro e w2 ⟨t3, rfl, ht30, ht31, rfl⟩
        go_wp2_with fail
        refine (clockBytes_any co eo cc ce us.length ls hl hu hsl _ h3).mono ?_
        rintro e w2 ⟨t4, rfl, ht40, ht41, rfl⟩
        by_cases g3 : t3 + t4 ≤ 1048576
        · go_wp2_with fail
          refine (pc_any ao bo ca cb ks vs ps HP.out hk hv _).mono ?_
          rintro e w2 ⟨rfl, rfl⟩
          by_cases g4 : ps.length ≤ 1024
          · go_wp2_with fail
            refine (pc_any co eo cc ce ls us qs HQ.out hl hu _).mono ?_
            rintro e w2 ⟨rfl, rfl⟩
            by_cases g5 : qs.length ≤ 1024
            · go_wp2_with fail
              refine (cloneStrings_any ao ca ks hk2 _ h1).mono ?_
              rintro e w3 ⟨a1, c1, rfl, k1, hb3, _⟩
              have h2a := h2.below hb3 (Nat.le_refl _)
              have h3a := h3.below hb3 (Nat.le_refl _)
              have h4a := h4.below hb3 (Nat.le_refl _)
              go_wp2_with fail
              refine (cloneU64_any bo cb vs hv2 _ h2a).mono ?_
              rintro e w4 ⟨a2, c2, rfl, k2, hb4, _⟩
              have h3b := h3a.below hb4 (Nat.le_refl _)
              have h4b := h4a.below hb4 (Nat.le_refl _)
              have k1b := k1.below hb4 (Nat.le_refl _)
              have hb4' := hb3.trans (hb4.mono hb3.size)
              go_wp2_with fail
              refine (cloneStrings_any co cc ls hl2 _ h3b).mono ?_
              rintro e w5 ⟨a3, c3, rfl, k3, hb5, _⟩
              have h4c := h4b.below hb5 (Nat.le_refl _)
              have k1c := k1b.below hb5 (Nat.le_refl _)
              have k2c := k2.below hb5 (Nat.le_refl _)
              have hb5' := hb4'.trans (hb5.mono hb4'.size)
              go_wp2_with fail
              refine (cloneU64_any eo ce us hu2 _ h4c).mono ?_
              rintro e w6 ⟨a4, c4, rfl, k4, hb6, _⟩
              have k1d := k1c.below hb6 (Nat.le_refl _)
              have k2d := k2c.below hb6 (Nat.le_refl _)
              have k3d := k3.below hb6 (Nat.le_refl _)
              have hbel := hb5'.trans (hb6.mono hb5'.size)
              clear h2a h3a h4a h3b h4b k1 k1b k1c k2 k2c k3 h4c hb3 hb4 hb5 hb6 hb4' hb5'
              go_wp2_with fail
              refine (pc_any a1 a2 c1 c2 ks vs ps HP.out hk hv _).mono ?_
              rintro e w7 ⟨rfl, rfl⟩
              go_wp2_with fail
              refine (pc_any a3 a4 c3 c4 ls us qs HQ.out hl hu _).mono ?_
              rintro e w8 ⟨rfl, rfl⟩
              go_wp2
              go_loop [11, 12, 13] (fun lo hi i => ∃ (k : Nat) (x y : Bool), k ≤ ps.length ∧ i = .int .i64 k ∧ lo = .bool x ∧ hi = .bool y ∧ Hid (Pl.Asked ps qs ([] ++ ps.take k) x y)) (fun _ _ i => ps.length - (intOf i).toNat)
              case atStart => exact ⟨0, false, false, Nat.zero_le _, rfl, rfl, rfl, Pl.asked_nil ps qs⟩
              case round =>
                obtain ⟨k, x, y, hk0, rfl, rfl, rfl, HA⟩ := hrel
                by_cases hlt : k < ps.length
                · obtain ⟨⟨s, v⟩, hq⟩ : ∃ q, ps[k]? = some q := ⟨ps[k], List.getElem?_eq_getElem hlt⟩
                  have hq2 := hq
                  rw [HP.out] at hq2
                  obtain ⟨e1, e2⟩ := zip_at hq2
                  have k1e := k1d
                  obtain ⟨_, b, off, hc⟩ := k1e
                  obtain ⟨rfl, hb', hc0⟩ := hc k _ e1
                  have HK : Hid (ps[k]? = some (s, v)) := hq
                  have hlk : k < ks.length := by omega
                  clear hc hq hq2 e1 e2
                  simp only [] at hc0
                  go_wp2_with fail
                  refine (lv_any _ a2 c1 c2 ks vs ps HP.out s hk2 _ k1d k2d).mono ?_
                  rintro e w9 ⟨rfl, rfl⟩
                  go_wp2_with fail
                  refine (lv_any a3 a4 c3 c4 ls us qs HQ.out s hl2 _ k3d k4).mono ?_
                  rintro e w9 ⟨rfl, rfl⟩
                  by_cases c1 : Pl.lv ps s < Pl.lv qs s
                  · go_wp2
                    go_round
                    case rel => exact ⟨k + 1, true, y, by omega, by go_num, rfl, rfl, asked_lo1 HA.out HK.out c1⟩
                    case measure => simp [intOf]; omega
                  · by_cases c2 : Pl.lv qs s < Pl.lv ps s
                    · go_wp2
                      go_round
                      case rel => exact ⟨k + 1, x, true, by omega, by go_num, rfl, rfl, asked_hi1 HA.out HK.out c2⟩
                      case measure => simp [intOf]; omega
                    · go_wp2
                      go_round
                      case rel => exact ⟨k + 1, x, y, by omega, by go_num, rfl, rfl, asked_eq1 HA.out HK.out (by show ¬ Pl.lv ps s < Pl.lv qs s; omega) (by show ¬ Pl.lv qs s < Pl.lv ps s; omega)⟩
                      case measure => simp [intOf]; omega
                · have hks : k = ps.length := by omega
                  subst hks
                  rw [List.take_length, List.nil_append] at HA
                  have HA0 : Hid (Pl.Asked ps qs (ps ++ qs.take 0) x y) := by show Pl.Asked _ _ _ _ _; rw [List.take_zero, List.append_nil]; exact HA.out
                  clear hk0 HA
                  go_wp2
                  go_loop [11, 12, 16] (fun lo hi i => ∃ (k : Nat) (x y : Bool), k ≤ qs.length ∧ i = .int .i64 k ∧ lo = .bool x ∧ hi = .bool y ∧ Hid (Pl.Asked ps qs (ps ++ qs.take k) x y)) (fun _ _ i => qs.length - (intOf i).toNat)
                  case atStart => exact ⟨0, x, y, Nat.zero_le _, rfl, rfl, rfl, HA0⟩
                  case round =>
                    clear HA0
                    obtain ⟨k, x, y, hk0, rfl, rfl, rfl, HA⟩ := hrel
                    by_cases hlt : k < qs.length
                    · obtain ⟨⟨s, v⟩, hq⟩ : ∃ q, qs[k]? = some q := ⟨qs[k], List.getElem?_eq_getElem hlt⟩
                      have hq2 := hq
                      rw [HQ.out] at hq2
                      obtain ⟨e1, e2⟩ := zip_at hq2
                      have k3e := k3d
                      obtain ⟨_, b, off, hc⟩ := k3e
                      obtain ⟨rfl, hb', hc0⟩ := hc k _ e1
                      have HK : Hid (qs[k]? = some (s, v)) := hq
                      have hlk : k < ls.length := by omega
                      clear hc hq hq2 e1 e2
                      simp only [] at hc0
                      go_wp2_with fail
                      refine (lv_any a1 a2 c1 c2 ks vs ps HP.out s hk2 _ k1d k2d).mono ?_
                      rintro e w9 ⟨rfl, rfl⟩
                      go_wp2_with fail
                      refine (lv_any _ a4 c3 c4 ls us qs HQ.out s hl2 _ k3d k4).mono ?_
                      rintro e w9 ⟨rfl, rfl⟩
                      by_cases c1 : Pl.lv ps s < Pl.lv qs s
                      · go_wp2
                        go_round
                        case rel => exact ⟨k + 1, true, y, by omega, by go_num, rfl, rfl, asked_lo1 HA.out HK.out c1⟩
                        case measure => simp [intOf]; omega
                      · by_cases c2 : Pl.lv qs s < Pl.lv ps s
                        · go_wp2
                          go_round
                          case rel => exact ⟨k + 1, x, true, by omega, by go_num, rfl, rfl, asked_hi1 HA.out HK.out c2⟩
                          case measure => simp [intOf]; omega
                        · go_wp2
                          go_round
                          case rel => exact ⟨k + 1, x, y, by omega, by go_num, rfl, rfl, asked_eq1 HA.out HK.out (by show ¬ Pl.lv ps s < Pl.lv qs s; omega) (by show ¬ Pl.lv qs s < Pl.lv ps s; omega)⟩
                          case measure => simp [intOf]; omega
                    · have hks : k = qs.length := by omega
                      subst hks
                      rw [List.take_length] at HA
                      have HLo : Hid (Pl.Says ps qs x) := Pl.asked_lo HN1.out HA.out
                      have HHi : Hid (Pl.Says qs ps y) := Pl.asked_hi HN2.out HA.out
                      clear HA hk0
                      cases x <;> cases y
                      all_goals
                        go_wp2_with fail
                        refine (build_any a1 a2 c1 c2 ks vs hk2 hv2 _ k1d k2d).mono ?_
                        rintro e wA ⟨rfl, hcA, hbA⟩
                        rw [← HP.out] at hcA
                        have k3x := k3d.below hbA (Nat.le_refl _)
                        have k4x := k4.below hbA (Nat.le_refl _)
                        have hbelA := hbel.trans (hbA.mono hbel.size)
                        go_wp2_with fail
                        refine (build_any a3 a4 c3 c4 ls us hl2 hu2 _ k3x k4x).mono ?_
                        rintro e wB ⟨rfl, hcB, hbB⟩
                        rw [← HQ.out] at hcB
                        have hcA2 := clock_below hcA hbB (Nat.le_refl _)
                        have hbelB := hbelA.trans (hbB.mono hbelA.size)
                        go_wp2_with fail
                        refine (compare_any _ _ ps qs HN1.out HN2.out _ hcA2 hcB).mono ?_
                        rintro e wC ⟨lo, hi, rfl, s1, s2, hbC⟩
                        obtain rfl := Pl.says_one s1 HLo.out
                        obtain rfl := Pl.says_one s2 HHi.out
                        have hbelC := hbelB.trans (hbC.mono hbelB.size)
                        clear s1 s2
                        simp only [Pl.ord]
                        go_wp2
                        go_ret
                        exact ⟨rfl, hbelC⟩
            · go_wp2
              go_ret
              exact ⟨rfl, Below.refl _ _⟩
          · go_wp2
            go_ret
            exact ⟨rfl, Below.refl _ _⟩
        · go_wp2
          go_ret
          exact ⟨rfl, Below.refl _ _⟩
      · go_wp2
        go_ret
        exact ⟨rfl, Below.refl _ _⟩
    · go_wp2
      go_ret
      exact ⟨rfl, Below.refl _ _⟩
end Go.Proofs.Qxb6000524a
