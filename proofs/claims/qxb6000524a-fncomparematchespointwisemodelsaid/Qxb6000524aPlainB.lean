/-
  PLAIN LAWS ON THE TWO LOOPS OF 'Compare': what holds while hosts are still to come ('left'). No Go in sight.
-/
import Derived.Test.Qxb6000524aPlain
namespace Go.Proofs.Qxb6000524a.Pl

/-- The first loop: over the hosts of ps. -/
structure First (ps qs : List Pr) (left : List UInt8 → Bool) (a b : Bool) : Prop where
  lo1 : a = true → ∃ h, lv ps h < lv qs h
  hi1 : b = true → ∃ h, lv qs h < lv ps h
  lo2 : ∀ l, (lvO ps l).isSome = true → left l = false → lv ps l < lv qs l → a = true
  hi2 : ∀ l, (lvO ps l).isSome = true → left l = false → lv qs l < lv ps l → b = true

theorem first_start (ps qs : List Pr) (left : List UInt8 → Bool) (h : ∀ l, left l = (lvO ps l).isSome) : First ps qs left false false :=
  ⟨by simp, by simp, fun l h1 h2 => (by rw [h l, h1] at h2; cases h2), fun l h1 h2 => (by rw [h l, h1] at h2; cases h2)⟩

theorem first_next {ps qs : List Pr} {left left' : List UInt8 → Bool} {a b : Bool} (h : First ps qs left a b) (x : List UInt8) (hl : ∀ l, left' l = false → left l = false ∨ l = x) :
    First ps qs left' (a || decide (lv ps x < lv qs x)) (b || decide (lv qs x < lv ps x)) := by
  refine ⟨fun e => ?_, fun e => ?_, fun l h1 h2 h3 => ?_, fun l h1 h2 h3 => ?_⟩
  · rw [Bool.or_eq_true, decide_eq_true_eq] at e
    rcases e with e | e
    · exact h.lo1 e
    · exact ⟨_, e⟩
  · rw [Bool.or_eq_true, decide_eq_true_eq] at e
    rcases e with e | e
    · exact h.hi1 e
    · exact ⟨_, e⟩
  · rw [Bool.or_eq_true, decide_eq_true_eq]
    rcases hl l h2 with h4 | rfl
    · exact Or.inl (h.lo2 l h1 h4 h3)
    · exact Or.inr h3
  · rw [Bool.or_eq_true, decide_eq_true_eq]
    rcases hl l h2 with h4 | rfl
    · exact Or.inl (h.hi2 l h1 h4 h3)
    · exact Or.inr h3

/-- The second loop: over the hosts of qs. -/
structure Second (ps qs : List Pr) (left : List UInt8 → Bool) (a : Bool) : Prop where
  lo1 : a = true → ∃ h, lv ps h < lv qs h
  lo2 : ∀ l, (lvO ps l).isSome = true → lv ps l < lv qs l → a = true
  lo3 : ∀ l, (lvO qs l).isSome = true → left l = false → (lvO ps l).isSome = false → 0 < lv qs l → a = true

theorem second_start {ps qs : List Pr} {left1 left : List UInt8 → Bool} {a b : Bool} (h : First ps qs left1 a b) (hz : ∀ l, left1 l = false) (hl : ∀ l, left l = (lvO qs l).isSome) : Second ps qs left a :=
  ⟨h.lo1, fun l h1 h2 => h.lo2 l h1 (hz l) h2, fun l h1 h2 => by rw [hl l, h1] at h2; cases h2⟩

theorem lv_absent {ps : List Pr} {l : List UInt8} (h : (lvO ps l).isSome = false) : lv ps l = 0 := by
  unfold lv
  cases e : lvO ps l with
  | none => rfl
  | some v => rw [e] at h; simp at h

theorem second_skip {ps qs : List Pr} {left left' : List UInt8 → Bool} {a : Bool} (h : Second ps qs left a) (x : List UInt8) (hl : ∀ l, left' l = false → left l = false ∨ l = x) (hx : (lvO ps x).isSome = true ∨ ¬ 0 < lv qs x) : Second ps qs left' a := by
  refine ⟨h.lo1, h.lo2, fun l h1 h2 h3 h4 => ?_⟩
  rcases hl l h2 with h5 | rfl
  · exact h.lo3 l h1 h5 h3 h4
  · rcases hx with hx | hx
    · rw [hx] at h3; cases h3
    · exact absurd h4 hx

theorem second_hit {ps qs : List Pr} {left' : List UInt8 → Bool} (x : List UInt8) (hx : (lvO ps x).isSome = false) (hp : 0 < lv qs x) : Second ps qs left' true :=
  ⟨fun _ => ⟨x, by rw [lv_absent hx]; exact hp⟩, fun _ _ _ => rfl, fun _ _ _ _ _ => rfl⟩

theorem present_of_pos {qs : List Pr} {l : List UInt8} (h : 0 < lv qs l) : (lvO qs l).isSome = true := by
  cases e : lvO qs l with
  | none => rw [lv, e] at h; simp at h
  | some v => rfl

theorem says_lo {ps qs : List Pr} {left : List UInt8 → Bool} {a : Bool} (h : Second ps qs left a) (hz : ∀ l, left l = false) (hn : ∀ p ∈ ps, 0 ≤ p.2) : Says ps qs a := by
  refine ⟨h.lo1, ?_⟩
  rintro ⟨x, hx⟩
  have h0 := lv_nonneg ps hn x
  cases e : (lvO ps x).isSome with
  | true => exact h.lo2 x e hx
  | false =>
    have hp : 0 < lv qs x := by omega
    exact h.lo3 x (present_of_pos hp) (hz x) e hp

theorem says_hi {ps qs : List Pr} {left : List UInt8 → Bool} {a b : Bool} (h : First ps qs left a b) (hz : ∀ l, left l = false) (hn : ∀ p ∈ qs, 0 ≤ p.2) : Says qs ps b := by
  refine ⟨h.hi1, ?_⟩
  rintro ⟨x, hx⟩
  have h0 := lv_nonneg qs hn x
  exact h.hi2 x (present_of_pos (by omega)) (hz x) hx

end Go.Proofs.Qxb6000524a.Pl
