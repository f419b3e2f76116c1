import Derived.Test.Qxb6000524aWalksC
import Derived.Test.Qxb6000524aPlainB
import Derived.OpenShut
namespace Go.Proofs.Qxb6000524a
open Go.RowKit Go.Maps

theorem keyS_inv {key : Value} {kl : Lit} (h : keyOf Try.prog 9 key = some kl) : ∃ l : List UInt8, key = .string (S l) ∧ kl = .string l ∧ l.length ≤ maxLen := by
  cases key <;> simp [keyOf, Try.underlying9, mapKey] at h
  obtain ⟨hs, rfl⟩ := h
  exact ⟨L _, by rw [S_L], rfl, by rw [L_len]; exact hs⟩

theorem S_inj {a b : List UInt8} (h : Value.string (S a) = Value.string (S b)) : a = b := by
  have := Value.string.inj h
  rw [← L_S a, this, L_S]

/-- THE STEP of a range over a clock. -/
theorem next_clock (w : World) {ops : Array Oper} {rest : List Oper} {o : Oper} {a : Act} {Q : Exit → Act → World → Prop} (hg : o.guard = none) (it : Operand) (hop : o.op = Op.next it false)
    (b r n : Nat) (D : DataW Unit) (left : Lit → Bool) (cnt : Nat) (hit : a.eval it = .pointer (some ⟨r, 0, none⟩)) (h : w.ranges Try.prog 9 (plainElem Try.prog 34) b r n D left cnt)
    (hDone : (∀ kl, left kl = false) → wpList Try.prog ops Q rest (a.put o.dst (.tuple #[.bool false])) w)
    (hMore : ∀ (l : List UInt8) (c : Int) (w' : World) (cnt' : Nat), l.length ≤ maxLen → 0 ≤ c ∧ c ≤ 18446744073709551615 → D.atKey (.string l) (.lit (.int .u64 0)) = .lit (.int .u64 c) →
      w'.ranges Try.prog 9 (plainElem Try.prog 34) b r n D (fun z => left z && !z.sameKey (.string l)) cnt' → cnt' < cnt → w.grownBy w' (some r) → w'.heap.size = w.heap.size →
      (Instr.entry (.pointer (some ⟨r, 0, none⟩))).run Try.prog w' = .ok (.tuple #[.string (S l), .int .u64 c]) w' → wpList Try.prog ops Q rest (a.put o.dst (.tuple #[.bool true, .string (S l), .int .u64 c])) w') :
    wpList Try.prog ops Q (o :: rest) a w :=
  wpList_next_ranges w hg it hop 9 law9 (plainElem Try.prog 34) (fun l : List UInt8 => .string (S l)) (Value.int .u64) (fun key kl hk => by obtain ⟨l, rfl, _⟩ := keyS_inv hk; exact ⟨l, rfl⟩)
    (fun v y hv => by obtain ⟨c, rfl, _⟩ := plainElem_int_inv Try.underlying34 hv; exact ⟨c, rfl⟩) b r n D left cnt hit h (fun _ hl => hDone hl)
    (fun l c kl y w' cnt' hkey hlk hv hat hrg hlt hgr hsz hen => by
      obtain ⟨l', el, rfl, hl'⟩ := keyS_inv hkey
      obtain rfl := S_inj el
      obtain ⟨c', ec, rfl, hwc⟩ := plainElem_int_inv Try.underlying34 hv
      cases ec
      exact hMore l c w' cnt' hl' (bounds_u64 hwc) (hat _) hrg hlt hgr hsz hen)


theorem left_next {left : Lit → Bool} {x : List UInt8} (l : List UInt8) (h : (left (.string l) && !(Lit.string l).sameKey (.string x)) = false) : left (.string l) = false ∨ l = x := by
  cases e : left (.string l) with
  | false => exact Or.inl rfl
  | true =>
    rw [e, Bool.true_and] at h
    exact Or.inr (Lit.string.inj (WideAt.sameKey_eq (by simpa using h)))

theorem first_lo {ps qs : List Pl.Pr} {left : Lit → Bool} {a b : Bool} {l : List UInt8} {c m : Int} (h : Pl.First ps qs (fun l => left (.string l)) a b) (hc : Pl.lv ps l = c) (hm : Pl.lv qs l = m) (hl : c < m) :
    Pl.First ps qs (fun x => left (.string x) && !(Lit.string x).sameKey (.string l)) true b := by
  have := Pl.first_next h l (left' := fun x => left (.string x) && !(Lit.string x).sameKey (.string l)) (fun x hx => left_next x hx)
  rw [hc, hm, decide_eq_true hl, decide_eq_false (by omega : ¬ m < c), Bool.or_true, Bool.or_false] at this
  exact this
theorem first_hi {ps qs : List Pl.Pr} {left : Lit → Bool} {a b : Bool} {l : List UInt8} {c m : Int} (h : Pl.First ps qs (fun l => left (.string l)) a b) (hc : Pl.lv ps l = c) (hm : Pl.lv qs l = m) (hl : m < c) :
    Pl.First ps qs (fun x => left (.string x) && !(Lit.string x).sameKey (.string l)) a true := by
  have := Pl.first_next h l (left' := fun x => left (.string x) && !(Lit.string x).sameKey (.string l)) (fun x hx => left_next x hx)
  rw [hc, hm, decide_eq_true hl, decide_eq_false (by omega : ¬ c < m), Bool.or_true, Bool.or_false] at this
  exact this
theorem first_eq {ps qs : List Pl.Pr} {left : Lit → Bool} {a b : Bool} {l : List UInt8} {c m : Int} (h : Pl.First ps qs (fun l => left (.string l)) a b) (hc : Pl.lv ps l = c) (hm : Pl.lv qs l = m) (h1 : c ≤ m) (h2 : m ≤ c) :
    Pl.First ps qs (fun x => left (.string x) && !(Lit.string x).sameKey (.string l)) a b := by
  have := Pl.first_next h l (left' := fun x => left (.string x) && !(Lit.string x).sameKey (.string l)) (fun x hx => left_next x hx)
  rw [hc, hm, decide_eq_false (by omega : ¬ m < c), decide_eq_false (by omega : ¬ c < m), Bool.or_false, Bool.or_false] at this
  exact this

theorem lit_inj {a b : Int} (h : (DataW.lit (.int .u64 a) : DataW Unit) = .lit (.int .u64 b)) : a = b := by
  cases h; rfl

theorem clock_below {w w' : World} {b : Nat} {ps : List Pl.Pr} (h : IsClock w b ps) {B : Nat} (hb : Below B w w') (hB : w.heap.size ≤ B) : IsClock w' b ps := by
  obtain ⟨D, n, hown, hn, hg⟩ := h
  refine ⟨D, n, ?_, hn, hg⟩
  have hlt := hown.lt
  obtain ⟨es, clock, h1, h2, h3, h4⟩ := hown
  exact ⟨es, clock, (hb.block b (Nat.lt_of_lt_of_le hlt hB)).trans h1, h2, h3, h4⟩

theorem good_at {D : DataW Unit} {ps : List Pl.Pr} (h : Good D ps) {l : List UInt8} {c : Int} (hat : D.atKey (.string l) (.lit (.int .u64 0)) = .lit (.int .u64 c)) : Hid (Pl.lv ps l = c) := by
  have := (h l).2
  rw [hat] at this
  exact (lit_inj this).symm

/-- What Compare leaves. -/
def Comp (ps qs : List Pl.Pr) (w : World) (e : Ending) (w' : World) : Prop :=
  ∃ lo hi : Bool, e = .returned (.int .i64 (Pl.ord lo hi)) ∧ Pl.Says ps qs lo ∧ Pl.Says qs ps hi ∧ Below w.heap.size w w'

set_option maxHeartbeats 1000000 in
theorem compare_any (b1 b2 : Nat) (ps qs : List Pl.Pr) (hn1 : ∀ p ∈ ps, 0 ≤ p.2) (hn2 : ∀ p ∈ qs, 0 ≤ p.2) (w : World) (h1 : IsClock w b1 ps) (h2 : IsClock w b2 qs) :
    Calls Try.prog 13 #[.map (some b1), .map (some b2)] w (Comp ps qs w) := by
  obtain ⟨D1, n1, hown1, hs1, hg1⟩ := h1
  obtain ⟨D2, n2, hown2, hs2, hg2⟩ := h2
  have hlt1 := hown1.lt
  have hlt2 := hown2.lt
  go_enter Try.func13, Try.ntmps13
  go_wp2_with (first | (at_range; refine wpList_range_own _ rfl _ 29 rfl 9 34 law9 Try.underlying29 _ b1 n1 D1 rfl hown1 ?_; intro w0 hrg0 hgr0 hs0) | go_in)
  go_frame
  have hown20 := hown2.kept hgr0 (by simp)
  have hbel0 : Below w.heap.size w w0 := (Below.refl _ _).grown hgr0 (Nat.le_refl _) (fun j hj => by cases hj)
  have Hs0 : Hid (w0.heap.size = w.heap.size + 1) := hs0
  clear hs0 hgr0
  go_loopw [5, 6] (fun lo hi wr => ∃ (left : Lit → Bool) (cnt : Nat) (a b : Bool), lo = .bool a ∧ hi = .bool b ∧ wr.ranges Try.prog 9 (plainElem Try.prog 34) b1 w.heap.size n1 D1 left cnt ∧ wr.ownsMap Try.prog 9 (plainElem Try.prog 34) b2 n2 D2 ∧
      Below w.heap.size w wr ∧ Hid (wr.heap.size = w.heap.size + 1) ∧ Hid (Pl.First ps qs (fun l => left (.string l)) a b)) (fun _ _ wr => wr.rangeLeft b1 w.heap.size)
  case atStart => exact ⟨_, _, false, false, rfl, rfl, hrg0, hown20, hbel0, Hs0, Pl.first_start _ _ _ (fun l => (hg1 l).1)⟩
  case round =>
    clear hrg0 hown20 hbel0 Hs0
    obtain ⟨left, cnt, a, b, rfl, rfl, hrg, hm2, hbel, Hsz, HF⟩ := hrel
    go_wp2_with (first | (at_next; refine next_clock _ rfl _ rfl b1 w.heap.size n1 D1 left cnt rfl hrg ?_ ?_) | go_in)
    · intro hl0
      have HF2 : Hid (Pl.Says qs ps b) := Pl.says_hi HF.out (fun l => hl0 _) hn2
      have hown1b := hrg.owns
      go_wp2_with (first | (at_range; refine wpList_range_own _ rfl _ 29 rfl 9 34 law9 Try.underlying29 _ b2 n2 D2 rfl hm2 ?_; intro w0 hrg0 hgr0 hs0) | go_in)
      go_frame
      have hb0 : Below w.heap.size w w0 := hbel.grown hgr0 hbel.size (fun j hj => by cases hj)
      have hown10 := hown1b.kept hgr0 (by simp)
      have HF3 := Pl.second_start (ps := ps) (qs := qs) (left := fun l => Maps.has D2 (.string l)) HF.out (fun l => hl0 _) (fun l => (hg2 l).1)
      have Hr : Hid (wr.heap.size = w.heap.size + 1) := Hsz
      obtain ⟨r, hr⟩ : ∃ r, r = wr.heap.size := ⟨_, rfl⟩
      have hrb1 : b1 < r := by rw [hr, Hr.out]; omega
      have hrw : w.heap.size ≤ r := by rw [hr, Hr.out]; omega
      rw [← hr] at hrg0 ⊢
      clear hs0 hgr0 hm2 hbel Hsz HF hown1b hrg hl0 hr Hr
      go_loopw [5] (fun lo wr => ∃ (left : Lit → Bool) (cnt : Nat) (a : Bool), lo = .bool a ∧ wr.ranges Try.prog 9 (plainElem Try.prog 34) b2 r n2 D2 left cnt ∧ wr.ownsMap Try.prog 9 (plainElem Try.prog 34) b1 n1 D1 ∧
        Below w.heap.size w wr ∧ Hid (Pl.Second ps qs (fun l => left (.string l)) a)) (fun _ wr => wr.rangeLeft b2 r)
      case atStart => exact ⟨_, _, a, rfl, hrg0, hown10, hb0, HF3⟩
      case round =>
        clear hrg0 hown10 hb0 HF3
        obtain ⟨left, cnt, a, rfl, hrg, hm1, hbel, HF⟩ := hrel
        go_wp2_with (first | (at_next; refine next_clock _ rfl _ rfl b2 r n2 D2 left cnt rfl hrg ?_ ?_) | go_in)
        · intro hl0
          have HF1 : Hid (Pl.Says ps qs a) := Pl.says_lo HF.out (fun l => hl0 _) hn1
          clear HF hl0 hrg hm1
          cases a <;> cases b
          all_goals
            go_wp2
            go_ret
            exact ⟨_, _, rfl, HF1.out, HF2.out, hbel⟩
        · intro l c w1 cnt1 hl hc0 hc1 hat hrg1 hlt hgr hsz hen
          have hm1' := hm1.kept hgr (by simp; omega)
          have hb1 : Below w.heap.size w w1 := hbel.grown hgr hbel.size (fun j hj => by cases hj; exact hrw)
          have HC := good_at hg2 hat
          have HL : Hid (cnt1 < cnt) := hlt
          clear hsz hat hgr hm1 hlt hbel
          have hh := (hg1 l).1
          cases e : (Pl.lvO ps l).isSome with
          | true =>
            rw [e] at hh
            have HN := Pl.second_skip HF.out l (left' := fun x => left (.string x) && !(Lit.string x).sameKey (.string l)) (fun x hx => left_next x hx) (Or.inl e)
            clear e
            go_wp2_with (first | (at_lookup; refine wpList_lookup_own_ok_int _ rfl _ _ 29 rfl 9 34 .u64 law9 Try.underlying29 Try.underlying34 (zero34 _) b1 n1 D1 rfl hm1' _ _ rfl (keyS l hl) ?_; intro m hat2 hwm; rw [hh]; clear hat2) | go_in)
            go_roundw
            case rel => exact ⟨_, _, a, rfl, hrg1, hm1', hb1, HN⟩
            case measure => rw [hrg1.left_eq, hrg.left_eq]; exact HL.out
          | false =>
            rw [e] at hh
            by_cases hpos : 0 < c
            · have HN := Pl.second_hit (ps := ps) (qs := qs) (left' := fun x => left (.string x) && !(Lit.string x).sameKey (.string l)) l e (by rw [HC.out]; exact hpos)
              clear e
              go_wp2_with (first | (at_lookup; refine wpList_lookup_own_ok_int _ rfl _ _ 29 rfl 9 34 .u64 law9 Try.underlying29 Try.underlying34 (zero34 _) b1 n1 D1 rfl hm1' _ _ rfl (keyS l hl) ?_; intro m hat2 hwm; rw [hh]; clear hat2) | go_in)
              go_roundw
              case rel => exact ⟨_, _, true, rfl, hrg1, hm1', hb1, HN⟩
              case measure => rw [hrg1.left_eq, hrg.left_eq]; exact HL.out
            · have HN := Pl.second_skip HF.out l (left' := fun x => left (.string x) && !(Lit.string x).sameKey (.string l)) (fun x hx => left_next x hx) (Or.inr (by rw [HC.out]; exact hpos))
              clear e
              go_wp2_with (first | (at_lookup; refine wpList_lookup_own_ok_int _ rfl _ _ 29 rfl 9 34 .u64 law9 Try.underlying29 Try.underlying34 (zero34 _) b1 n1 D1 rfl hm1' _ _ rfl (keyS l hl) ?_; intro m hat2 hwm; rw [hh]; clear hat2) | go_in)
              go_roundw
              case rel => exact ⟨_, _, a, rfl, hrg1, hm1', hb1, HN⟩
              case measure => rw [hrg1.left_eq, hrg.left_eq]; exact HL.out
    · intro l c w1 cnt1 hl hc0 hc1 hat hrg1 hlt hgr hsz hen
      have hm2' := hm2.kept hgr (by simp; omega)
      have hb1 : Below w.heap.size w w1 := hbel.grown hgr hbel.size (fun j hj => by cases hj; exact Nat.le_refl _)
      have Hsz1 : Hid (w1.heap.size = w.heap.size + 1) := by show _ = _; rw [hsz]; exact Hsz.out
      have HC := good_at hg1 hat
      have HL : Hid (cnt1 < cnt) := hlt
      clear hsz hat hgr hm2 hlt hbel Hsz
      go_wp2_with (first | (at_lookup; refine wpList_lookup_own_int _ rfl _ _ 29 rfl 9 34 .u64 law9 Try.underlying29 Try.underlying34 (zero34 _) b2 n2 D2 rfl hm2' _ _ rfl (keyS l hl) ?_; intro m hat2 hwm; have HM : Hid (Pl.lv qs l = m) := good_at hg2 hat2; clear hat2) | go_in)
      · have hcm : c < m := by assumption
        go_roundw
        case rel => exact ⟨_, _, true, b, rfl, rfl, hrg1, hm2', hb1, Hsz1, first_lo HF.out HC.out HM.out hcm⟩
        case measure => rw [hrg1.left_eq, hrg.left_eq]; exact HL.out
      · have hcm : m < c := by assumption
        go_roundw
        case rel => exact ⟨_, _, a, true, rfl, rfl, hrg1, hm2', hb1, Hsz1, first_hi HF.out HC.out HM.out hcm⟩
        case measure => rw [hrg1.left_eq, hrg.left_eq]; exact HL.out
      · have hcm : m ≤ c := by assumption
        have hcm2 : c ≤ m := by assumption
        go_roundw
        case rel => exact ⟨_, _, a, b, rfl, rfl, hrg1, hm2', hb1, Hsz1, first_eq HF.out HC.out HM.out hcm2 hcm⟩
        case measure => rw [hrg1.left_eq, hrg.left_eq]; exact HL.out
end Go.Proofs.Qxb6000524a
