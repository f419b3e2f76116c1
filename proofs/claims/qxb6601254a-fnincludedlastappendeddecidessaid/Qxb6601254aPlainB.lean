/-
  PLAIN LAWS ON LISTS OF PATTERNS (action, path): no Go in sight. 'inc': what 'Included' answers; 'incB': what 'IncludesBeneath' answers.
-/
import Derived.Test.Qxb6601254aPlain
namespace Go.Proofs.Qxb6601254a.Pl

abbrev Pt := List UInt8 × List UInt8

def mat (path pat : List UInt8) : Bool := decide (path = pat) || ben path pat

def inc (ps : List Pt) (path : List UInt8) : Bool := ps.foldl (fun v q => if mat path q.2 then decide (q.1 = [43]) else v) true

def incB (ps : List Pt) (dir : List UInt8) : Bool := inc ps dir || ps.any fun q => decide (q.1 = [43]) && ben q.2 dir && inc ps q.2

theorem inc_nil (path : List UInt8) : inc [] path = true := rfl

theorem inc_snoc (l : List Pt) (q : Pt) (path : List UInt8) : inc (l ++ [q]) path = if mat path q.2 then decide (q.1 = [43]) else inc l path := by
  simp [inc, List.foldl_append]

theorem fold_none (r : List Pt) (path : List UInt8) (v : Bool) (h : ∀ q ∈ r, mat path q.2 = false) : r.foldl (fun v q => if mat path q.2 then decide (q.1 = [43]) else v) v = v := by
  induction r with
  | nil => rfl
  | cons x r ih =>
    rw [List.foldl_cons, h x (by simp)]
    exact ih (fun q hq => h q (by simp [hq]))

theorem inc_app_none (l r : List Pt) (path : List UInt8) (h : ∀ q ∈ r, mat path q.2 = false) : inc (l ++ r) path = inc l path := by
  unfold inc
  rw [List.foldl_append, fold_none r path _ h]

theorem inc_none (r : List Pt) (path : List UInt8) (h : ∀ q ∈ r, mat path q.2 = false) : inc r path = true := by
  exact (inc_app_none [] r path h)

theorem inc_hit (ps : List Pt) (k : Nat) (q : Pt) (path : List UInt8) (hq : ps[k]? = some q) (hm : mat path q.2 = true) (h : ∀ q ∈ ps.drop (k + 1), mat path q.2 = false) : inc ps path = decide (q.1 = [43]) := by
  obtain ⟨hk, hv⟩ := List.getElem?_eq_some_iff.1 hq
  have e : ps = (ps.take k ++ [q]) ++ ps.drop (k + 1) := by
    rw [List.append_assoc, ← hv]
    simp
  rw [e, inc_app_none _ _ _ h, inc_snoc, hm]
  rfl

/-- The last pattern that matches, if there is one, decides. -/
theorem inc_cases (ps : List Pt) (path : List UInt8) : (∀ q ∈ ps, mat path q.2 = false) ∨ ∃ l q r, ps = l ++ q :: r ∧ mat path q.2 = true ∧ ∀ x ∈ r, mat path x.2 = false := by
  induction ps with
  | nil => left; intro q hq; simp at hq
  | cons x r ih =>
    rcases ih with h | ⟨l, q, r', e, hq, h⟩
    · by_cases hx : mat path x.2 = true
      · exact Or.inr ⟨[], x, r, rfl, hx, h⟩
      · left
        intro q hq
        rcases List.mem_cons.1 hq with rfl | hq
        · simpa using hx
        · exact h q hq
    · exact Or.inr ⟨x :: l, q, r', by rw [e]; rfl, hq, h⟩

theorem inc_mid (l : List Pt) (q : Pt) (r : List Pt) (path : List UInt8) (hm : mat path q.2 = true) (h : ∀ x ∈ r, mat path x.2 = false) : inc (l ++ q :: r) path = decide (q.1 = [43]) := by
  have e : l ++ q :: r = (l ++ [q]) ++ r := by simp
  rw [e, inc_app_none _ _ _ h, inc_snoc, hm]
  rfl

/-! ### the order of paths -/

theorem ben_self (a : List UInt8) : ben a a = false := by
  by_cases h : a = [46]
  · subst h; rw [ben_dot]; simp
  · rw [Bool.eq_false_iff]
    intro hb
    obtain ⟨t, ht⟩ := (ben_iff a a h).1 hb
    have := congrArg List.length ht
    simp at this

theorem not_dot (c t : List UInt8) : c ++ 47 :: t ≠ [46] := by
  cases c with
  | nil => simp
  | cons x c => simp

theorem ben_trans (a b c : List UInt8) (h1 : ben a b = true) (h2 : ben b c = true) : ben a c = true := by
  by_cases hc : c = [46]
  · subst hc
    rw [ben_dot] at h2 ⊢
    have hb : b ≠ [46] := by simpa using h2
    obtain ⟨t, rfl⟩ := (ben_iff a b hb).1 h1
    simpa using not_dot b t
  · obtain ⟨t, rfl⟩ := (ben_iff b c hc).1 h2
    have hb : c ++ 47 :: t ≠ [46] := not_dot c t
    obtain ⟨u, rfl⟩ := (ben_iff _ _ hb).1 h1
    exact (ben_iff _ _ hc).2 ⟨t ++ 47 :: u, by simp⟩

/-- Two that lie above one path lie above each other, or are one. -/
theorem ben_line (q d e : List UInt8) (h1 : ben q d = true) (h2 : ben q e = true) : e = d ∨ ben e d = true ∨ ben d e = true := by
  by_cases hd : d = [46]
  · by_cases he : e = [46]
    · left; rw [hd, he]
    · right; left; subst hd; rw [ben_dot]; simp [he]
  · by_cases he : e = [46]
    · right; right; subst he; rw [ben_dot]; simp [hd]
    · obtain ⟨t, rfl⟩ := (ben_iff q d hd).1 h1
      obtain ⟨u, hu⟩ := (ben_iff _ e he).1 h2
      rcases List.append_eq_append_iff.1 hu with ⟨a, ha, hb⟩ | ⟨a, ha, hb⟩
      · cases a with
        | nil => left; simpa using ha
        | cons x a =>
          right; left
          simp at hb
          exact (ben_iff e d hd).2 ⟨a, by rw [ha, ← hb.1]⟩
      · cases a with
        | nil => left; simpa using ha.symm
        | cons x a =>
          right; right
          simp at hb
          exact (ben_iff d e he).2 ⟨a, by rw [ha, ← hb.1]⟩

theorem mat_iff (p q : List UInt8) : mat p q = true ↔ p = q ∨ ben p q = true := by simp [mat]

/-- Whatever matches a path that lies beneath, or is, another's. -/
theorem mat_down (q d x : List UInt8) (h : ben q d = true) (hx : mat d x = true) : mat q x = true := by
  rw [mat_iff] at hx ⊢
  rcases hx with rfl | hx
  · exact Or.inr h
  · exact Or.inr (ben_trans _ _ _ h hx)

theorem not_down {q d : List UInt8} {r : List Pt} (h : ben q d = true) (hr : ∀ x ∈ r, mat q x.2 = false) : ∀ x ∈ r, mat d x.2 = false := by
  intro x hx
  rw [Bool.eq_false_iff]
  intro hm
  have := mat_down q d x.2 h hm
  rw [hr x hx] at this
  cases this

/-- A kept path beneath dir: dir is kept, or a pattern '+' beneath dir is. -/
theorem sound (ps : List Pt) (dir q : List UInt8) (hb : ben q dir = true) (hi : inc ps q = true) : incB ps dir = true := by
  unfold incB
  rw [Bool.or_eq_true]
  rcases inc_cases ps q with h | ⟨l, x, r, rfl, hx, h⟩
  · left
    exact inc_none ps dir (not_down hb h)
  · rw [inc_mid l x r q hx h] at hi
    have e : x.1 = [43] := by simpa using hi
    rw [mat_iff] at hx
    have right : ben x.2 dir = true → (∀ y ∈ r, mat x.2 y.2 = false) → (List.any (l ++ x :: r) fun z => decide (z.1 = [43]) && ben z.2 dir && inc (l ++ x :: r) z.2) = true := by
      intro h1 h2
      rw [List.any_eq_true]
      refine ⟨x, by simp, ?_⟩
      rw [inc_mid l x r x.2 (by simp [mat]) h2, h1]
      simp [e]
    rcases hx with hx | hx
    · exact Or.inr (right (hx ▸ hb) (hx ▸ h))
    · have h2 := not_down hx h
      rcases ben_line q dir x.2 hb hx with h3 | h3 | h3
      · left
        rw [inc_mid l x r dir (by simp [mat, h3]) (not_down hb h)]
        simp [e]
      · exact Or.inr (right h3 h2)
      · left
        rw [inc_mid l x r dir (by simp [mat, h3]) (not_down hb h)]
        simp [e]

end Go.Proofs.Qxb6601254a.Pl
