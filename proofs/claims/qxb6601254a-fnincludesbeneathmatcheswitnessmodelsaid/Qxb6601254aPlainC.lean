/-
  PLAIN LAWS FOR THE WITNESS: a fresh child of dir is included just where dir is. No Go in sight.
-/
import Derived.Test.Qxb6601254aPlainB
namespace Go.Proofs.Qxb6601254a.Pl

def fresh (dir : List UInt8) (n : Nat) : List UInt8 := if dir = [46] then List.replicate n 120 else dir ++ 47 :: List.replicate n 120

theorem fresh_len (dir : List UInt8) (n : Nat) : n ≤ (fresh dir n).length := by
  unfold fresh
  split <;> simp <;> omega

theorem no_slash (n : Nat) (a t : List UInt8) : List.replicate n (120 : UInt8) ≠ a ++ 47 :: t := by
  intro e
  have h : (47 : UInt8) ∈ List.replicate n (120 : UInt8) := by rw [e]; simp
  have := List.eq_of_mem_replicate h
  exact absurd this (by decide)

theorem mat_fresh (dir p : List UInt8) (n : Nat) (h : p.length < n) : mat (fresh dir n) p = mat dir p := by
  have hne : fresh dir n ≠ p := fun e => by have := fresh_len dir n; rw [e] at this; omega
  rw [Bool.eq_iff_iff, mat_iff, mat_iff]
  by_cases hd : dir = [46]
  · have hf : fresh dir n = List.replicate n 120 := by rw [fresh, if_pos hd]
    by_cases hp : p = [46]
    · subst hp
      constructor
      · intro _; exact Or.inl hd
      · intro _; right; rw [ben_dot]; simpa using hne
    · constructor
      · rintro (e | e)
        · exact absurd e hne
        · obtain ⟨t, ht⟩ := (ben_iff _ _ hp).1 e
          rw [hf] at ht
          exact absurd ht (no_slash n p t)
      · rintro (e | e)
        · exact absurd (e.symm.trans hd) hp
        · obtain ⟨t, ht⟩ := (ben_iff _ _ hp).1 e
          exact absurd (ht.symm.trans hd) (not_dot p t)
  · have hf : fresh dir n = dir ++ 47 :: List.replicate n 120 := by rw [fresh, if_neg hd]
    by_cases hp : p = [46]
    · subst hp
      constructor
      · intro _; right; rw [ben_dot]; simpa using hd
      · intro _; right; rw [ben_dot]; simpa using hne
    · constructor
      · rintro (e | e)
        · exact absurd e hne
        · obtain ⟨t, ht⟩ := (ben_iff _ _ hp).1 e
          rw [hf] at ht
          rcases List.append_eq_append_iff.1 ht with ⟨a, ha, hb⟩ | ⟨a, ha, hb⟩
          · cases a with
            | nil => left; simpa using ha.symm
            | cons x a =>
              simp at hb
              exact absurd hb.2 (no_slash n a t)
          · cases a with
            | nil => left; simpa using ha
            | cons x a =>
              right
              simp at hb
              exact (ben_iff _ _ hp).2 ⟨a, by rw [ha, ← hb.1]⟩
      · rintro (e | e)
        · right
          exact (ben_iff _ _ hp).2 ⟨List.replicate n 120, by rw [hf, e]⟩
        · right
          obtain ⟨t, ht⟩ := (ben_iff _ _ hp).1 e
          exact (ben_iff _ _ hp).2 ⟨t ++ 47 :: List.replicate n 120, by rw [hf, ht]; simp⟩

theorem fold_same (ps : List Pt) (a b : List UInt8) (v : Bool) (h : ∀ q ∈ ps, mat a q.2 = mat b q.2) :
    ps.foldl (fun v q => if mat a q.2 then decide (q.1 = [43]) else v) v = ps.foldl (fun v q => if mat b q.2 then decide (q.1 = [43]) else v) v := by
  induction ps generalizing v with
  | nil => rfl
  | cons x r ih =>
    rw [List.foldl_cons, List.foldl_cons, h x (by simp)]
    exact ih _ (fun q hq => h q (by simp [hq]))

theorem inc_fresh (ps : List Pt) (dir : List UInt8) (n : Nat) (h : ∀ q ∈ ps, q.2.length < n) : inc ps (fresh dir n) = inc ps dir :=
  fold_same ps _ _ true fun q hq => mat_fresh dir q.2 n (h q hq)

/-- What the model asks of one pattern. -/
def wit (ps : List Pt) (dir : List UInt8) (q : Pt) : Bool := ben q.2 dir && inc ps q.2

/-- The verdict when k patterns have been asked. -/
def want (ps : List Pt) (dir : List UInt8) (k : Nat) : Bool := inc ps dir || (ps.take k).any (wit ps dir)

theorem want_zero (ps : List Pt) (dir : List UInt8) : want ps dir 0 = inc ps dir := by simp [want]

theorem want_next (ps : List Pt) (dir : List UInt8) (k : Nat) (q : Pt) (hq : ps[k]? = some q) : want ps dir (k + 1) = (want ps dir k || wit ps dir q) := by
  unfold want
  rw [List.take_add_one, hq, List.any_append]
  simp [Bool.or_assoc]

theorem incB_wit (ps : List Pt) (dir : List UInt8) (q : Pt) (h : wit ps dir q = true) : incB ps dir = true := by
  unfold wit at h
  rw [Bool.and_eq_true] at h
  exact sound ps dir q.2 h.1 h.2

theorem want_true (ps : List Pt) (dir : List UInt8) (k : Nat) (h : want ps dir k = true) : incB ps dir = true := by
  unfold want at h
  rw [Bool.or_eq_true, List.any_eq_true] at h
  rcases h with h | ⟨q, _, h⟩
  · unfold incB; rw [h]; rfl
  · exact incB_wit ps dir q h

theorem want_all (ps : List Pt) (dir : List UInt8) (h : want ps dir ps.length = false) : incB ps dir = false := by
  unfold want at h
  rw [List.take_length, Bool.or_eq_false_iff, List.any_eq_false] at h
  unfold incB
  rw [h.1, Bool.false_or, List.any_eq_false]
  intro x hx hb
  refine h.2 x hx ?_
  simp only [Bool.and_eq_true] at hb
  simp [wit, hb.1.2, hb.2]

end Go.Proofs.Qxb6601254a.Pl
