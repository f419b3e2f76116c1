/-
  PLAIN LAWS ON LISTS OF BYTES: no Go in sight. 'ben': what 'beneath' answers. 'comps': the components of a path.
-/
namespace Go.Proofs.Qxb6601254a.Pl

def ben (p d : List UInt8) : Bool :=
  if d = [46] then decide (p ≠ [46]) else (d ++ [47]).isPrefixOf p

def comps : List UInt8 → List (List UInt8)
  | [] => [[]]
  | c :: s => if c = 47 then [] :: comps s else (c :: (comps s).headD []) :: (comps s).tail

def join : List (List UInt8) → List UInt8
  | [] => []
  | a :: r => match r with
    | [] => a
    | b :: q => a ++ 47 :: join (b :: q)

theorem comps_ne (s : List UInt8) : comps s ≠ [] := by
  cases s with
  | nil => simp [comps]
  | cons c s => unfold comps; split <;> simp

theorem comps_len (s : List UInt8) : (comps s).length = s.count 47 + 1 := by
  induction s with
  | nil => simp [comps]
  | cons c s ih =>
    have hn := comps_ne s
    unfold comps
    by_cases h : c = 47
    · subst h; simp [ih]
    · have : 0 < (comps s).length := List.length_pos_iff.2 hn
      simp [h, ih]

theorem comps_c47 (s : List UInt8) : comps (47 :: s) = [] :: comps s := by rw [comps]; simp

theorem comps_cne (c : UInt8) (s : List UInt8) (h : ¬ c = 47) : comps (c :: s) = (c :: (comps s).headD []) :: (comps s).tail := by rw [comps]; simp [h]

theorem comps_pos (s : List UInt8) : 0 < (comps s).length := by rw [comps_len]; omega

theorem comps_app (d t : List UInt8) : comps (d ++ 47 :: t) = comps d ++ comps t := by
  induction d with
  | nil => simp [comps]
  | cons c d ih =>
    have hn := comps_ne d
    rw [List.cons_append]
    by_cases h : c = 47
    · subst h; rw [comps_c47, comps_c47, ih]; rfl
    · rw [comps_cne c _ h, comps_cne c _ h, ih]
      cases hd : comps d with
      | nil => exact absurd hd hn
      | cons a r => simp

theorem join_cons (a : List UInt8) (r : List (List UInt8)) (h : r ≠ []) : join (a :: r) = a ++ 47 :: join r := by
  cases r with
  | nil => exact absurd rfl h
  | cons b q => rfl

theorem join_app (a b : List (List UInt8)) (ha : a ≠ []) (hb : b ≠ []) : join (a ++ b) = join a ++ 47 :: join b := by
  induction a with
  | nil => exact absurd rfl ha
  | cons x r ih =>
    by_cases h : r = []
    · subst h; rw [List.cons_append, List.nil_append, join_cons _ _ hb]; rfl
    · rw [List.cons_append, join_cons _ _ (by simp [h]), ih h, join_cons _ _ h]; simp

theorem join_comps (s : List UInt8) : join (comps s) = s := by
  induction s with
  | nil => rfl
  | cons c s ih =>
    have hn := comps_ne s
    unfold comps
    by_cases h : c = 47
    · rw [if_pos h, join_cons _ _ hn, ih, h]; rfl
    · rw [if_neg h]
      cases hs : comps s with
      | nil => exact absurd hs hn
      | cons a r =>
        rw [hs] at ih
        show join ((c :: a) :: r) = c :: s
        cases r with
        | nil => rw [← ih]; rfl
        | cons b q => rw [← ih]; rfl

theorem comps_one (t : List UInt8) (h : 47 ∉ t) : comps t = [t] := by
  induction t with
  | nil => rfl
  | cons c s ih =>
    have hc : ¬ c = 47 := fun e => h (by simp [e])
    have hs : 47 ∉ s := fun e => h (by simp [e])
    unfold comps
    rw [if_neg hc, ih hs]
    rfl

theorem comps_slash (l : List UInt8) : comps (l ++ [47]) = comps l ++ [[]] := comps_app l []

theorem comps_snoc (l : List UInt8) (c : UInt8) (h : ¬ c = 47) : comps (l ++ [c]) = (comps l).dropLast ++ [(comps l).getLastD [] ++ [c]] := by
  induction l with
  | nil => simp [comps, h]
  | cons x l ih =>
    have hn := comps_ne l
    rw [List.cons_append]
    by_cases hx : x = 47
    · subst hx
      rw [comps_c47, comps_c47, ih]
      cases hl : comps l with
      | nil => exact absurd hl hn
      | cons a r => simp
    · rw [comps_cne x _ hx, comps_cne x _ hx, ih]
      cases hl : comps l with
      | nil => exact absurd hl hn
      | cons a r =>
        cases r with
        | nil => simp
        | cons b q => simp

/-! ### 'beneath' by components -/

theorem ben_iff (p d : List UInt8) (h : d ≠ [46]) : ben p d = true ↔ ∃ t, p = d ++ 47 :: t := by
  unfold ben
  rw [if_neg h, List.isPrefixOf_iff_prefix]
  constructor
  · rintro ⟨t, ht⟩; exact ⟨t, by rw [← ht]; simp⟩
  · rintro ⟨t, ht⟩; exact ⟨t, by rw [ht]; simp⟩

theorem ben_dot (p : List UInt8) : ben p [46] = decide (p ≠ [46]) := by simp [ben]

theorem ben_of_comps (p d : List UInt8) (h : d ≠ [46]) (r : List (List UInt8)) (hr : r ≠ []) (e : comps p = comps d ++ r) : ben p d = true := by
  rw [ben_iff p d h]
  refine ⟨join r, ?_⟩
  have := join_app (comps d) r (comps_ne d) hr
  rw [← e, join_comps, join_comps] at this
  exact this

theorem comps_of_ben (p d : List UInt8) (h : d ≠ [46]) (hb : ben p d = true) : ∃ r, r ≠ [] ∧ comps p = comps d ++ r := by
  obtain ⟨t, rfl⟩ := (ben_iff p d h).1 hb
  exact ⟨comps t, comps_ne t, comps_app d t⟩

theorem getD_app_left (a b : List (List UInt8)) (j : Nat) (h : j < a.length) : (a ++ b).getD j [] = a.getD j [] := by
  simp [List.getElem?_append_left h]

theorem ben_all (p d : List UInt8) (h : d ≠ [46]) (hl : (comps d).length < (comps p).length) (ha : ∀ j, j < (comps d).length → (comps p).getD j [] = (comps d).getD j []) : ben p d = true := by
  refine ben_of_comps p d h ((comps p).drop (comps d).length) ?_ ?_
  · intro e
    have := congrArg List.length e
    simp at this
    omega
  · have e : (comps p).take (comps d).length = comps d := by
      apply List.ext_getElem
      · simp; omega
      · intro i h1 h2
        have := ha i h2
        simp [List.getD_eq_getElem?_getD, List.getElem?_eq_getElem h2, List.getElem?_eq_getElem (Nat.lt_trans h2 hl)] at this
        simpa using this
    exact (List.take_append_drop (comps d).length (comps p)).symm.trans (by rw [e])

theorem ben_short (p d : List UInt8) (h : d ≠ [46]) (hl : (comps p).length ≤ (comps d).length) : ben p d = false := by
  rw [Bool.eq_false_iff]
  intro hb
  obtain ⟨r, hr, e⟩ := comps_of_ben p d h hb
  have := congrArg List.length e
  have := List.length_pos_iff.2 hr
  simp at *
  omega

theorem ben_parts (p d : List UInt8) (h : d ≠ [46]) (j : Nat) (hj : j < (comps d).length) (hne : (comps p).getD j [] ≠ (comps d).getD j []) : ben p d = false := by
  rw [Bool.eq_false_iff]
  intro hb
  obtain ⟨r, hr, e⟩ := comps_of_ben p d h hb
  exact hne (by rw [e, getD_app_left _ _ _ hj])

/-! ### how the Go text of 'beneath' says it -/

theorem ben_hit (p d : List UInt8) (h : d ≠ [46]) (h2 : p[d.length]? = some 47) : ben p d = (p.take d.length == d) := by
  rw [Bool.eq_iff_iff, ben_iff p d h, beq_iff_eq]
  constructor
  · rintro ⟨t, rfl⟩; simp
  · intro e
    obtain ⟨hlt, hv⟩ := List.getElem?_eq_some_iff.1 h2
    refine ⟨p.drop (d.length + 1), ?_⟩
    have h1 := (List.take_append_drop d.length p).symm
    rw [e, List.drop_eq_getElem_cons hlt, hv] at h1
    exact h1

theorem ben_miss (p d : List UInt8) (h : d ≠ [46]) (h2 : p[d.length]? ≠ some 47) : ben p d = false := by
  rw [Bool.eq_false_iff]
  intro hb
  obtain ⟨t, rfl⟩ := (ben_iff p d h).1 hb
  exact h2 (by simp)

/-! ### the second loop of 'splitSlash': what holds at place i of the text l: 'st' begins the component that is being read -/

theorem last_eq (l : List UInt8) : (comps l).getD ((comps l).length - 1) [] = (comps l).getLastD [] := by
  rw [List.getLastD_eq_getLast?, List.getLast?_eq_getElem?, List.getD_eq_getElem?_getD]

theorem step_slash (l : List UInt8) (j : Nat) (h : j < (comps l).length) : (comps (l ++ [47])).getD j [] = (comps l).getD j [] := by
  rw [comps_slash, getD_app_left _ _ _ h]

theorem len_slash (l : List UInt8) : (comps (l ++ [47])).length = (comps l).length + 1 := by simp [comps_slash]

theorem last_slash (l : List UInt8) : (comps (l ++ [47])).getD (comps l).length [] = [] := by simp [comps_slash]

theorem len_other (l : List UInt8) (c : UInt8) (h : ¬ c = 47) : (comps (l ++ [c])).length = (comps l).length := by
  have := comps_pos l
  rw [comps_snoc l c h]; simp; omega

theorem step_other (l : List UInt8) (c : UInt8) (h : ¬ c = 47) (j : Nat) (hj : j < (comps l).length - 1) : (comps (l ++ [c])).getD j [] = (comps l).getD j [] := by
  rw [comps_snoc l c h, getD_app_left _ _ _ (by simp; omega)]
  have hj' : j < (comps l).length := by omega
  simp [hj, hj']

theorem last_other (l : List UInt8) (c : UInt8) (h : ¬ c = 47) : (comps (l ++ [c])).getD ((comps l).length - 1) [] = (comps l).getD ((comps l).length - 1) [] ++ [c] := by
  rw [last_eq, comps_snoc l c h]
  simp

theorem comps_take_le (l : List UInt8) (k : Nat) : (comps (l.take k)).length ≤ (comps l).length := by
  rw [comps_len, comps_len]
  have := (List.take_sublist k l).count_le 47
  omega

end Go.Proofs.Qxb6601254a.Pl
