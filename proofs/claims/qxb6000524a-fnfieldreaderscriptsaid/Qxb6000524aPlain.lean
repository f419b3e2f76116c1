/-
  PLAIN LAWS ON LISTS OF PAIRS (host, count): no Go in sight.
-/
namespace Go.Proofs.Qxb6000524a.Pl

abbrev Pr := List UInt8 × Int

/-- The last count of host h, if there is one. -/
def lvO (ps : List Pr) (h : List UInt8) : Option Int := ps.foldl (fun x p => if p.1 = h then some p.2 else x) none

/-- The last count of host h, zero when absent. -/
def lv (ps : List Pr) (h : List UInt8) : Int := (lvO ps h).getD 0

theorem lvO_nil (h : List UInt8) : lvO [] h = none := rfl

theorem lvO_snoc (ps : List Pr) (p : Pr) (h : List UInt8) : lvO (ps ++ [p]) h = if p.1 = h then some p.2 else lvO ps h := by
  simp [lvO, List.foldl_append]

theorem lvO_take (ps : List Pr) (k : Nat) (p : Pr) (hp : ps[k]? = some p) (h : List UInt8) : lvO (ps.take (k + 1)) h = if p.1 = h then some p.2 else lvO (ps.take k) h := by
  rw [List.take_add_one, hp]
  exact lvO_snoc _ p h

theorem lv_take (ps : List Pr) (k : Nat) (p : Pr) (hp : ps[k]? = some p) (h : List UInt8) : lv (ps.take (k + 1)) h = if p.1 = h then p.2 else lv (ps.take k) h := by
  unfold lv
  rw [lvO_take ps k p hp h]
  split <;> rfl

theorem fold_some (ps : List Pr) (h : List UInt8) : ∀ x : Option Int, (ps.foldl (fun x p => if p.1 = h then some p.2 else x) x) = x ∨ ∃ p ∈ ps, p.1 = h ∧ (ps.foldl (fun x p => if p.1 = h then some p.2 else x) x) = some p.2 := by
  induction ps with
  | nil => intro x; exact Or.inl rfl
  | cons q r ih =>
    intro x
    rw [List.foldl_cons]
    by_cases hq : q.1 = h
    · rw [if_pos hq]
      rcases ih (some q.2) with e | ⟨p, hp, h1, h2⟩
      · exact Or.inr ⟨q, by simp, hq, e⟩
      · exact Or.inr ⟨p, by simp [hp], h1, h2⟩
    · rw [if_neg hq]
      rcases ih x with e | ⟨p, hp, h1, h2⟩
      · exact Or.inl e
      · exact Or.inr ⟨p, by simp [hp], h1, h2⟩

/-- A count that is there is some pair's. -/
theorem lvO_mem (ps : List Pr) (h : List UInt8) (v : Int) (e : lvO ps h = some v) : ∃ p ∈ ps, p.1 = h ∧ p.2 = v := by
  rcases fold_some ps h none with e2 | ⟨p, hp, h1, h2⟩
  · unfold lvO at e; rw [e2] at e; cases e
  · unfold lvO at e; rw [e] at h2; exact ⟨p, hp, h1, (Option.some.inj h2).symm⟩

theorem lv_nonneg (ps : List Pr) (hn : ∀ p ∈ ps, 0 ≤ p.2) (h : List UInt8) : 0 ≤ lv ps h := by
  unfold lv
  cases e : lvO ps h with
  | none => simp
  | some v =>
    obtain ⟨p, hp, _, h2⟩ := lvO_mem ps h v e
    have := hn p hp
    simp only [Option.getD_some]
    omega

theorem lv_pos_mem (ps : List Pr) (h : List UInt8) (hp : 0 < lv ps h) : ∃ p ∈ ps, p.1 = h := by
  unfold lv at hp
  cases e : lvO ps h with
  | none => rw [e] at hp; simp at hp
  | some v =>
    obtain ⟨p, hm, h1, _⟩ := lvO_mem ps h v e
    exact ⟨p, hm, h1⟩

/-- What Compare answers for 'some entry is below', 'some entry is above'. -/
def ord (lo hi : Bool) : Int := if lo && hi then 3 else if lo then 1 else if hi then 2 else 0

/-- 'b says that some host's count in ps is below that in qs'. -/
def Says (ps qs : List Pr) (b : Bool) : Prop := b = true ↔ ∃ h, lv ps h < lv qs h

theorem says_one {ps qs : List Pr} {a b : Bool} (h1 : Says ps qs a) (h2 : Says ps qs b) : a = b := by
  rw [Bool.eq_iff_iff]
  exact h1.trans h2.symm

/-- The model's verdict when the keys of ks have been asked. -/
structure Asked (ps qs ks : List Pr) (lo hi : Bool) : Prop where
  lo1 : lo = true → ∃ h, lv ps h < lv qs h
  hi1 : hi = true → ∃ h, lv qs h < lv ps h
  lo2 : ∀ p ∈ ks, lv ps p.1 < lv qs p.1 → lo = true
  hi2 : ∀ p ∈ ks, lv qs p.1 < lv ps p.1 → hi = true

theorem asked_nil (ps qs : List Pr) : Asked ps qs [] false false := ⟨by simp, by simp, by simp, by simp⟩

theorem asked_next {ps qs ks : List Pr} {lo hi : Bool} (h : Asked ps qs ks lo hi) (p : Pr) : Asked ps qs (ks ++ [p]) (lo || decide (lv ps p.1 < lv qs p.1)) (hi || decide (lv qs p.1 < lv ps p.1)) := by
  refine ⟨fun e => ?_, fun e => ?_, fun x hx hl => ?_, fun x hx hl => ?_⟩
  · rw [Bool.or_eq_true, decide_eq_true_eq] at e
    rcases e with e | e
    · exact h.lo1 e
    · exact ⟨_, e⟩
  · rw [Bool.or_eq_true, decide_eq_true_eq] at e
    rcases e with e | e
    · exact h.hi1 e
    · exact ⟨_, e⟩
  · rw [Bool.or_eq_true, decide_eq_true_eq]
    rcases List.mem_append.1 hx with hx | hx
    · exact Or.inl (h.lo2 x hx hl)
    · simp at hx; subst hx; exact Or.inr hl
  · rw [Bool.or_eq_true, decide_eq_true_eq]
    rcases List.mem_append.1 hx with hx | hx
    · exact Or.inl (h.hi2 x hx hl)
    · simp at hx; subst hx; exact Or.inr hl

theorem asked_take {ps qs ks ms : List Pr} {k : Nat} {lo hi : Bool} {p : Pr} (h : Asked ps qs (ms ++ ks.take k) lo hi) (hp : ks[k]? = some p) : Asked ps qs (ms ++ ks.take (k + 1)) (lo || decide (lv ps p.1 < lv qs p.1)) (hi || decide (lv qs p.1 < lv ps p.1)) := by
  rw [List.take_add_one, hp, ← List.append_assoc]
  exact asked_next h p

theorem asked_lo {ps qs : List Pr} {lo hi : Bool} (hn : ∀ p ∈ ps, 0 ≤ p.2) (h : Asked ps qs (ps ++ qs) lo hi) : Says ps qs lo := by
  refine ⟨h.lo1, ?_⟩
  rintro ⟨x, hx⟩
  have h0 := lv_nonneg ps hn x
  obtain ⟨p, hp, rfl⟩ := lv_pos_mem qs x (by omega)
  exact h.lo2 p (by simp [hp]) hx

theorem asked_hi {ps qs : List Pr} {lo hi : Bool} (hn : ∀ p ∈ qs, 0 ≤ p.2) (h : Asked ps qs (ps ++ qs) lo hi) : Says qs ps hi := by
  refine ⟨h.hi1, ?_⟩
  rintro ⟨x, hx⟩
  have h0 := lv_nonneg qs hn x
  obtain ⟨p, hp, rfl⟩ := lv_pos_mem ps x (by omega)
  exact h.hi2 p (by simp [hp]) hx

end Go.Proofs.Qxb6000524a.Pl
