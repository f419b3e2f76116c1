import Derived.Test.Qxb6000524aWalksE
import Derived.OpenShut
namespace Go.Proofs.Qxb6000524a
open Go.RowKit

theorem zz19_yes (ao bo : Option Addr) (ca cb m n : Nat) (h : m + n ≤ 1048576) (w : World) :
    Calls Try.prog 19 #[.slice ao m ca, .slice bo n cb] w fun e w' => e = .returned (.bool true) ∧ w' = w := by
  go_enter Try.func19, Try.ntmps19
  go_wp2
  go_ret
  exact ⟨rfl, rfl⟩

theorem zz19_no (ao bo : Option Addr) (ca cb m n : Nat) (hm : m ≤ maxLen) (hn : n ≤ maxLen) (h : ¬ m + n ≤ 1048576) (w : World) :
    Calls Try.prog 19 #[.slice ao m ca, .slice bo n cb] w fun e w' => e = .returned (.bool false) ∧ w' = w := by
  unfold maxLen at hm hn
  by_cases h1 : m ≤ 1048576
  · by_cases h2 : n ≤ 1048576
    · go_enter Try.func19, Try.ntmps19
      go_wp2
      go_ret
      exact ⟨rfl, rfl⟩
    · go_enter Try.func19, Try.ntmps19
      go_wp2
      go_ret
      exact ⟨rfl, rfl⟩
  · go_enter Try.func19, Try.ntmps19
    go_wp2
    go_ret
    exact ⟨rfl, rfl⟩

/-- The first p bytes, as cells. -/
def rowOf (bs : List Int) (p : Nat) : List Value := (bs.take p).map (Value.int .u8)

theorem rowOf_more (bs : List Int) (p n : Nat) : rowOf bs p ++ rowOf (bs.drop p) n = rowOf bs (p + n) := by
  unfold rowOf
  rw [List.take_add, List.map_append]

theorem rowOf_len (bs : List Int) (n : Nat) (h : n = (bs.take n).length) : (rowOf bs n).length = n * 1 := by
  unfold rowOf
  rw [List.length_map, ← h, Nat.mul_one]

theorem rowOf_one (bs : List Int) (n : Nat) : ∀ u ∈ rowOf bs n, u.oneCell' = true := ints_oneCell .u8 _

/-- What stands when 'got' has been made: the reader's cell, the row of 'got'. -/
theorem start_state {w3 w5 : World} {a1 : Option Addr} {c1 : Nat} {bs : List Int} (hg : (w3.alloc (.cells #[.slice a1 bs.length c1] 49)).grownBy w5 none) 
    (ho : w5.ownsRow (w3.heap.size + 1) 5 1 (.slice (some ⟨w3.heap.size + 1, 0, none⟩) 0 bs.length) 0 []) (hb : IsNums w3 .u8 a1 bs) :
    w5.ownsRow (w3.heap.size + 1) 5 1 (.slice (some ⟨w3.heap.size + 1, 0, none⟩) 0 bs.length) 0 (rowOf bs 0) ∧ w5.cell? ⟨w3.heap.size, 0, none⟩ = some (.slice a1 bs.length c1) ∧ w5.frozen? ⟨w3.heap.size, 0, none⟩ = false ∧
      NumsB w5 w3.heap.size .u8 a1 (bs.drop 0) ∧ Below w3.heap.size w3 w5 ∧ w3.heap.size + 2 ≤ w5.heap.size := by
  have hbel : Below w3.heap.size w3 w5 := ((Below.refl _ _).alloc (Nat.le_refl _) _).grown hg (by simp) (fun j hj => by cases hj)
  have hblk : w5.heap[w3.heap.size]? = some (.cells #[.slice a1 bs.length c1] 49) := (hg.block w3.heap.size (by simp) (by simp)).trans (MapKept.heap_alloc w3 _).1
  have hlt := (ho.lt (w3.heap.size + 1) rfl).2
  exact ⟨ho, by simp [World.cell?, hblk], by simp [World.frozen?, hblk], hb.bound.below hbel (Nat.le_refl _), hbel, hlt⟩

theorem nums_cells {w : World} {ao : Option Addr} {zs : List Int} (h : IsNums w .u8 ao zs) : ∀ ad, ao = some ad → ∀ j u, (zs.map (Value.int .u8))[j]? = some u → w.cell? (ad.add j) = some u := by
  intro ad had j u hu
  obtain ⟨_, b, off, hc⟩ := h
  rw [List.getElem?_map] at hu
  obtain ⟨z, hz, rfl⟩ := Option.map_eq_some_iff.1 hu
  obtain ⟨h1, _, h3⟩ := hc j z hz
  rw [had] at h1
  obtain rfl := Option.some.inj h1
  rw [Go.WideShapes.add_plain]
  exact h3

theorem got_nums {w : World} {base G p m N : Nat} {bs : List Int} (h : w.ownsRow base 5 1 (.slice (some ⟨G, 0, none⟩) (p + m) N) (p + m) (rowOf bs (p + m))) (e : p + m = bs.length) (hwf : ∀ z ∈ bs, (Lit.int .u8 z).wf = true) : IsNums w .u8 (some ⟨G, 0, none⟩) bs := by
  refine ⟨hwf, G, 0, fun i z hz => ⟨rfl, (h.lt G rfl).2, ?_⟩⟩
  have hi := (List.getElem?_eq_some_iff.1 hz).1
  have hc := h.cellAt i (by omega)
  rw [Nat.zero_add, hc, rowOf, e, List.take_length, List.getElem?_map, hz]
  rfl

/-- Behind an append to 'got': the reader's cell, and what lies below it, stand. -/
theorem after_append {R : Nat} {w w' : World} {V : Value} {ao : Option Addr} {zs : List Int} {w3 : World} (hg : w.grownBy w' (some (R + 1))) (hR : R + 2 ≤ w.heap.size) (h1 : w.cell? ⟨R, 0, none⟩ = some V) (h2 : w.frozen? ⟨R, 0, none⟩ = false)
    (h3 : NumsB w R .u8 ao zs) (h4 : Below R w3 w) : w'.cell? ⟨R, 0, none⟩ = some V ∧ w'.frozen? ⟨R, 0, none⟩ = false ∧ NumsB w' R .u8 ao zs ∧ Below R w3 w' ∧ R + 2 ≤ w'.heap.size := by
  have hb := hg.block R (by omega) (by simp)
  have hbel : Below R w w' := (Below.refl _ _).grown hg (by omega) (fun j hj => by cases hj; omega)
  exact ⟨(World.cell?_of_block (w := w) hb).trans h1, (World.frozen?_of_block (w := w) hb).trans h2, h3.below hbel (Nat.le_refl _), h4.trans hbel, Nat.le_trans hR hbel.size⟩

set_option maxRecDepth 100000 in
set_option maxHeartbeats 4000000 in
theorem law6 (ao bo : Option Addr) (ca cb : Nat) (bs ns : List Int) (hm : bs.length ≤ maxLen) (hn : ns.length ≤ maxLen) (w : World) (h1 : IsNums w .u8 ao bs) (h2 : IsNums w .u64 bo ns) :
    Calls Try.prog 6 #[.slice ao bs.length ca, .slice bo ns.length cb] w fun e w' => e = .returned (.bool true) ∧ Below w.heap.size w w' := by
  obtain ⟨i5, hi5, hz0, hz1, hz2⟩ := info_parts info5
  by_cases g0 : bs.length + ns.length ≤ 1048576
  · go_enter Try.func6, Try.ntmps6
    go_wp2_with fail
    refine (zz19_yes ao bo ca cb bs.length ns.length g0 _).mono ?_
    rintro e w1 ⟨rfl, rfl⟩
    by_cases g1 : bs.length + 8 * ns.length ≤ 1048576
    · go_wp2_with fail
      refine (cloneB_any ao ca bs (by omega) _ h1).mono ?_
      rintro e w2 ⟨a1, c1, rfl, k1, hb2, hc11, hc12, hc13⟩
      have h2a := h2.below hb2 (Nat.le_refl _)
      go_wp2_with fail
      refine (cloneU64_any bo cb ns (by omega) _ h2a).mono ?_
      rintro e w3 ⟨a2, c2, rfl, k2, hb3, _⟩
      have k1b := k1.below hb3 (Nat.le_refl _)
      have hb3' := hb2.trans (hb3.mono hb2.size)
      clear h2a k1 hb2 hb3
      go_wp2_with fail
      refine (new_any a1 bs.length c1 _).mono ?_
      rintro e w4 ⟨rfl, rfl⟩
      go_wp2_with (first | (at_make; refine wpList_make_own _ rfl _ _ 37 rfl (w3.heap.size + 1) 5 i5 (.int .u8 0) 1 Try.underlying37 hi5 hz0 hz1 .i64 .i64 _ bs.length rfl rfl rfl ?_ ?_ ?_ ?_) | fail)
      · rw [hz2]; omega
      · exact hm
      · simp
      intro w5 hown5 hgr5
      have HS := start_state hgr5 hown5 k1b
      clear hgr5 hown5
      obtain ⟨hown5, hcR, hfR, hnb, hbel5, hsz5⟩ := HS
      go_wp2
      have k2b := k2.below hbel5 (Nat.le_refl _)
      have k2c := k2.bound
      have k1c := k1b.bound
      clear k1b k2
      go_loopw [6, 7] (fun g i wr => ∃ (k p m c : Nat) (ad : Option Addr), k ≤ ns.length ∧ i = .int .i64 k ∧ g = .slice (some ⟨w3.heap.size + 1, 0, none⟩) p bs.length ∧ Hid (p + m = bs.length) ∧
          wr.ownsRow (w3.heap.size + 1) 5 1 (.slice (some ⟨w3.heap.size + 1, 0, none⟩) p bs.length) p (rowOf bs p) ∧
          wr.cell? ⟨w3.heap.size, 0, none⟩ = some (.slice ad m c) ∧ wr.frozen? ⟨w3.heap.size, 0, none⟩ = false ∧ m ≤ c ∧ c ≤ 1048576 ∧ Hid (ad = none → c = 0) ∧ NumsB wr w3.heap.size .u8 ad (bs.drop p) ∧ Below w3.heap.size w3 wr ∧ w3.heap.size + 2 ≤ wr.heap.size)
        (fun _ i _ => ns.length - (intOf i).toNat)
      case atStart => exact ⟨0, 0, bs.length, c1, a1, Nat.zero_le _, rfl, rfl, by simp [Hid], hown5, hcR, hfR, hc11, hc12, hc13, hnb, hbel5, hsz5⟩
      case round =>
        clear hown5 hcR hfR hnb hbel5 hsz5 hc11 hc12 hc13 k2b
        obtain ⟨k, p, m, c, ad, hk, rfl, rfl, Hpm, hown, hcR, hfR, hmc, hc, Hnil, hnb, hbel, hsz⟩ := hrel
        by_cases hlt : k < ns.length
        · obtain ⟨z, hq⟩ : ∃ q, ns[k]? = some q := ⟨ns[k], List.getElem?_eq_getElem hlt⟩
          have k2d := k2c
          obtain ⟨hwf, b, off, hcell⟩ := k2d
          obtain ⟨rfl, hb', hc0⟩ := hcell k _ hq
          obtain ⟨hz0', hz1'⟩ := bounds_u64 (hwf z (List.mem_of_getElem? hq))
          have d0 := (hbel.cell (p := ⟨b, off + k, none⟩) hb').trans hc0
          clear hcell hwf hq hc0
          by_cases hzm : z ≤ m
          · obtain ⟨n, rfl⟩ : ∃ n : Nat, z = (n : Int) := ⟨z.toNat, by omega⟩
            have hnm : n ≤ m := by omega
            go_wp2_with fail
            refine (rest_any w3.heap.size ad m c _ hcR).mono ?_
            rintro e w6 ⟨rfl, rfl⟩
            go_wp2_with fail
            refine (znext_yes w3.heap.size ad m c n hnm hmc hc Hnil.out _ hcR hfR).mono ?_
            rintro e w7 ⟨rfl, hgr, hcR7, hfR7, hsz7⟩
            have hb67 : Below w3.heap.size w6 w7 := (Below.refl _ _).grown hgr (by omega) (fun j hj => by cases hj; exact Nat.le_refl _)
            have hbel7 := hbel.trans hb67
            have hnb7 := hnb.below hb67 (Nat.le_refl _)
            have hown7 := hown.kept hgr (Or.inr (by simp [Value.ownBlock]))
            have Hsz7 : Hid (w7.heap.size = w6.heap.size) := hsz7
            clear hsz7 hgr hb67 hown hcR hfR hnb hbel
            go_wp2_with fail
            refine (rest_any w3.heap.size (cutA ad n c) (m - n) (c - n) _ hcR7).mono ?_
            rintro e w8 ⟨rfl, rfl⟩
            cases ad with
            | none =>
              obtain rfl := Hnil.out rfl
              obtain rfl : m = 0 := by omega
              obtain rfl : n = 0 := by omega
              have hcut := hnb7.cut 0 0 (by rw [List.length_drop]; have := Hpm.out; omega)
              rw [cutA_none] at hcR7 ⊢
              rw [cutA_none] at hcut
              have hsz8 : w3.heap.size + 2 ≤ w8.heap.size := by have := Hsz7.out; omega
              have HT := (hnb7.take 0).plain (by omega)
              have HD := hcut.plain (by omega)
              have HLT : Hid (0 = ((bs.drop p).take 0).length) := by show _ = _; rw [List.length_take, List.length_drop]; have := Hpm.out; omega
              have HLD : Hid (0 = ((bs.drop p).drop 0).length) := by show _ = _; rw [List.length_drop, List.length_drop]; have := Hpm.out; omega
              go_wp2_with fail
              refine (same_any _ _ _ _ _ _ ((bs.drop p).take 0) HLT.out HLT.out (by have := HLT.out; omega) _ HT HT).mono ?_
              rintro e w9 ⟨rfl, d1, rfl⟩
              go_wp2_with fail
              refine (same_any _ _ _ _ _ _ ((bs.drop p).drop 0) HLD.out HLD.out (by have := HLD.out; omega) _ (by exact HD) (by exact HD)).mono ?_
              rintro e w9 ⟨rfl, d2, rfl⟩
              go_wp2_with (first | (at_builtin; refine wpList_append_fits_any _ rfl (.tmp 85) (.tmp 86) 37 rfl (w3.heap.size + 1) 5 i5 1 Try.underlying37 hi5 hz1 (w3.heap.size + 1) p bs.length _ rfl (by exact hown7) none 0 0 (rowOf (bs.drop p) 0) rfl ?_ ?_ ?_ ?_ ?_ ?_) | fail)
              · exact rowOf_len _ _ HLT.out
              · exact nums_cells (by exact HT)
              · exact rowOf_one _ _
              · have := Hpm.out; omega
              intro w10 hown10 hgr10
              have hA := after_append (w := w8.drewN (d1 + d2)) hgr10 hsz8 hcR7 hfR7 hcut (below_drewN hbel7 _)
              rw [rowOf_more] at hown10
              obtain ⟨hA1, hA2, hA3, hA4, hA5⟩ := hA
              rw [List.drop_drop] at hA3
              have HP2 : Hid (p + 0 + 0 = bs.length) := by show _ = _; have := Hpm.out; omega
              clear hgr10 hcut HT HD HLT HLD hcR7 hfR7 hnb7 hown7
              go_wp2
              go_roundw
              case rel => exact ⟨k + 1, p + 0, 0, 0, none, by omega, by go_num, rfl, HP2, hown10, hA1, hA2, by omega, by omega, fun _ => rfl, hA3, hA4, hA5⟩
              case measure => simp [intOf]; omega
            | some ad =>
              by_cases hcn : c = n
              · subst hcn
                obtain rfl : m = c := by omega
                have hcut := hnb7.cut m m (by rw [List.length_drop]; have := Hpm.out; omega)
                rw [cutA_end, Nat.sub_self] at hcR7 ⊢
                rw [cutA_end] at hcut
                have hsz8 : w3.heap.size + 2 ≤ w8.heap.size := by have := Hsz7.out; omega
                have HT := (hnb7.take m).plain (by omega)
                have HD := hcut.plain (by omega)
                have HLT : Hid (m = ((bs.drop p).take m).length) := by show _ = _; rw [List.length_take, List.length_drop]; have := Hpm.out; omega
                have HLD : Hid (0 = ((bs.drop p).drop m).length) := by show _ = _; rw [List.length_drop, List.length_drop]; have := Hpm.out; omega
                go_wp2_with fail
                refine (same_any _ _ _ _ _ _ ((bs.drop p).take m) HLT.out HLT.out (by have := HLT.out; omega) _ HT HT).mono ?_
                rintro e w9 ⟨rfl, d1, rfl⟩
                go_wp2_with fail
                refine (same_any _ _ _ _ _ _ ((bs.drop p).drop m) HLD.out HLD.out (by have := HLD.out; omega) _ (by exact HD) (by exact HD)).mono ?_
                rintro e w9 ⟨rfl, d2, rfl⟩
                go_wp2_with (first | (at_builtin; refine wpList_append_fits_any _ rfl (.tmp 85) (.tmp 86) 37 rfl (w3.heap.size + 1) 5 i5 1 Try.underlying37 hi5 hz1 (w3.heap.size + 1) p bs.length _ rfl (by exact hown7) (some ad) m m (rowOf (bs.drop p) m) rfl ?_ ?_ ?_ ?_ ?_ ?_) | fail)
                · exact rowOf_len _ _ HLT.out
                · exact fun h => by cases h
                · exact nums_cells (by exact HT)
                · exact rowOf_one _ _
                · have := Hpm.out; omega
                intro w10 hown10 hgr10
                have hA := after_append (w := w8.drewN (d1 + d2)) hgr10 hsz8 hcR7 hfR7 hcut (below_drewN hbel7 _)
                rw [rowOf_more] at hown10
                obtain ⟨hA1, hA2, hA3, hA4, hA5⟩ := hA
                rw [List.drop_drop] at hA3
                have HP2 : Hid (p + m + 0 = bs.length) := by show _ = _; have := Hpm.out; omega
                clear hgr10 hcut HT HD HLT HLD hcR7 hfR7 hnb7 hown7
                go_wp2
                go_roundw
                case rel => exact ⟨k + 1, p + m, 0, 0, some ad, by omega, by go_num, rfl, HP2, hown10, hA1, hA2, by omega, by omega, (fun h => by cases h), hA3, hA4, hA5⟩
                case measure => simp [intOf]; omega
              · have hcut := hnb7.cut n c (by rw [List.length_drop]; have := Hpm.out; omega)
                rw [cutA_mid _ _ _ hcn] at hcR7 ⊢
                rw [cutA_mid _ _ _ hcn] at hcut
                have hsz8 : w3.heap.size + 2 ≤ w8.heap.size := by have := Hsz7.out; omega
                have HT := (hnb7.take n).plain (by omega)
                have HD := hcut.plain (by omega)
                have HLT : Hid (n = ((bs.drop p).take n).length) := by show _ = _; rw [List.length_take, List.length_drop]; have := Hpm.out; omega
                have HLD : Hid ((m - n) = ((bs.drop p).drop n).length) := by show _ = _; rw [List.length_drop, List.length_drop]; have := Hpm.out; omega
                go_wp2_with fail
                refine (same_any _ _ _ _ _ _ ((bs.drop p).take n) HLT.out HLT.out (by have := HLT.out; omega) _ HT HT).mono ?_
                rintro e w9 ⟨rfl, d1, rfl⟩
                go_wp2_with fail
                refine (same_any _ _ _ _ _ _ ((bs.drop p).drop n) HLD.out HLD.out (by have := HLD.out; omega) _ (by exact HD) (by exact HD)).mono ?_
                rintro e w9 ⟨rfl, d2, rfl⟩
                go_wp2_with (first | (at_builtin; refine wpList_append_fits_any _ rfl (.tmp 85) (.tmp 86) 37 rfl (w3.heap.size + 1) 5 i5 1 Try.underlying37 hi5 hz1 (w3.heap.size + 1) p bs.length _ rfl (by exact hown7) (some ad) n c (rowOf (bs.drop p) n) rfl ?_ ?_ ?_ ?_ ?_ ?_) | fail)
                · exact rowOf_len _ _ HLT.out
                · exact fun h => by cases h
                · exact nums_cells (by exact HT)
                · exact rowOf_one _ _
                · have := Hpm.out; omega
                intro w10 hown10 hgr10
                have hA := after_append (w := w8.drewN (d1 + d2)) hgr10 hsz8 hcR7 hfR7 hcut (below_drewN hbel7 _)
                rw [rowOf_more] at hown10
                obtain ⟨hA1, hA2, hA3, hA4, hA5⟩ := hA
                rw [List.drop_drop] at hA3
                have HP2 : Hid (p + n + (m - n) = bs.length) := by show _ = _; have := Hpm.out; omega
                clear hgr10 hcut HT HD HLT HLD hcR7 hfR7 hnb7 hown7
                go_wp2
                go_roundw
                case rel => exact ⟨k + 1, p + n, (m - n), c - n, some (ad.add n), by omega, by go_num, rfl, HP2, hown10, hA1, hA2, by omega, by omega, (fun h => by cases h), hA3, hA4, hA5⟩
                case measure => simp [intOf]; omega
          · have hzm2 : (m : Int) < z := by omega
            have HD := hnb.plain (by omega)
            have HL : Hid (m = (bs.drop p).length) := by show _ = _; rw [List.length_drop]; have := Hpm.out; omega
            have hnil := fun (wx : World) => run_neq_slice_nil_any (P := Try.prog) wx 37 5 none 0 0 0 0 Try.underlying37
            go_wp2_with fail
            refine (rest_any w3.heap.size ad m c _ hcR).mono ?_
            rintro e w6 ⟨rfl, rfl⟩
            go_wp2_with fail
            refine (znext_no w3.heap.size ad m c z hzm2 (by omega) _ hcR).mono ?_
            rintro e w7 ⟨rfl, rfl⟩
            go_wp2_with fail
            refine (rest_any w3.heap.size ad m c _ hcR).mono ?_
            rintro e w8 ⟨rfl, rfl⟩
            go_wp2_with fail
            refine (same_any _ _ _ _ _ _ (bs.drop p) HL.out HL.out (by have := HL.out; omega) _ HD HD).mono ?_
            rintro e w9 ⟨rfl, d1, rfl⟩
            go_wp2
            go_roundw
            case rel => exact ⟨k + 1, p, m, c, ad, by omega, by go_num, rfl, Hpm, hown, hcR, hfR, hmc, hc, Hnil, hnb, below_drewN hbel _, hsz⟩
            case measure => simp [intOf]; omega
        · have hks : k = ns.length := by omega
          subst hks
          have HD := hnb.plain (by omega)
          have HL : Hid (m = ((bs.drop p).take m).length) := by show _ = _; rw [List.length_take, List.length_drop]; have := Hpm.out; omega
          have HTK : Hid ((bs.drop p).take m = bs.drop p) := by show _ = _; rw [List.take_of_length_le]; rw [List.length_drop]; have := Hpm.out; omega
          go_wp2_with fail
          refine (rest_any w3.heap.size ad m c _ hcR).mono ?_
          rintro e w6 ⟨rfl, rfl⟩
          go_wp2_with (first | (at_builtin; refine wpList_append_fits_any _ rfl (.tmp 99) (.tmp 101) 37 rfl (w3.heap.size + 1) 5 i5 1 Try.underlying37 hi5 hz1 (w3.heap.size + 1) p bs.length _ rfl (by exact hown) ad m c (rowOf (bs.drop p) m) rfl ?_ ?_ ?_ ?_ ?_ ?_) | fail)
          · exact rowOf_len _ _ HL.out
          · exact fun h => ⟨by have := Hnil.out h; omega, Hnil.out h⟩
          · unfold rowOf; rw [HTK.out]; exact nums_cells HD
          · exact rowOf_one _ _
          · have := Hpm.out; omega
          intro w10 hown10 hgr10
          rw [rowOf_more] at hown10
          have hb10 : Below w3.heap.size w6 w10 := (Below.refl _ _).grown hgr10 (by omega) (fun j hj => by cases hj; omega)
          have hbel10 := hbel.trans hb10
          have K1 := (k1c.below hbel10 (Nat.le_refl _)).plain hbel10.size
          have K2 := got_nums hown10 Hpm.out K1.1
          clear hgr10 hb10 hown10 hown hcR hfR hnb hbel HD HL HTK
          go_wp2_with fail
          refine (same_any _ _ _ _ _ _ bs Hpm.out rfl (by omega) _ K2 K1).mono ?_
          rintro e w11 ⟨rfl, d1, rfl⟩
          go_wp2
          go_ret
          exact ⟨rfl, below_drewN (hb3'.trans (hbel10.mono hb3'.size)) _⟩
    · go_wp2
      go_ret
      exact ⟨rfl, Below.refl _ _⟩
  · go_enter Try.func6, Try.ntmps6
    go_wp2_with fail
    refine (zz19_no ao bo ca cb bs.length ns.length hm hn g0 _).mono ?_
    rintro e w1 ⟨rfl, rfl⟩
    go_wp2
    go_ret
    exact ⟨rfl, Below.refl _ _⟩
end Go.Proofs.Qxb6000524a
