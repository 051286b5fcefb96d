import Derived.Test.Qxb6613157aKeys
namespace Go.Proofs.Qxb6613157a

def has (D : List Key3) (q : Key3) : Bool := D.any fun x => decide (x = q)
theorem has_iff (D : List Key3) (q : Key3) : has D q = true ↔ q ∈ D := by
  unfold has
  rw [List.any_eq_true]
  constructor
  · rintro ⟨x, hx, e⟩
    have := of_decide_eq_true e
    exact this ▸ hx
  · intro h
    exact ⟨q, h, by simp⟩
theorem has_no {D : List Key3} {q : Key3} (h : q ∉ D) : has D q = false := by
  cases e : has D q
  · rfl
  · exact absurd ((has_iff D q).1 e) h
theorem has_yes {D : List Key3} {q : Key3} (h : q ∈ D) : has D q = true := (has_iff D q).2 h

/-- The distinct keys among the first j, in the order of their first places. -/
def dist (ks : Nat → Key3) : Nat → List Key3
  | 0 => []
  | j + 1 => bif has (dist ks j) (ks j) then dist ks j else dist ks j ++ [ks j]

/-- What 'posOf' holds of place i. -/
def posF (ks : Nat → Key3) (i : Nat) : Int := bif has (dist ks i) (ks i) then -1 else ((dist ks i).length : Int)

/-- The place of q among D; -1 where it is none of them. -/
def posQ (D : List Key3) (q : Key3) : Int := bif has D q then (D.findIdx (fun x => decide (x = q)) : Int) else -1

theorem dist_same (ks : Nat → Key3) (j : Nat) (h : ks j ∈ dist ks j) : dist ks (j + 1) = dist ks j := by
  rw [dist, has_yes h]; rfl
theorem dist_new (ks : Nat → Key3) (j : Nat) (h : ks j ∉ dist ks j) : dist ks (j + 1) = dist ks j ++ [ks j] := by
  rw [dist, has_no h]; rfl

theorem dist_mem (ks : Nat → Key3) (k : Key3) : ∀ j, k ∈ dist ks j ↔ ∃ i, i < j ∧ ks i = k
  | 0 => by simp [dist]
  | j + 1 => by
    have ih := dist_mem ks k j
    by_cases h : ks j ∈ dist ks j
    · rw [dist_same ks j h, ih]
      constructor
      · rintro ⟨i, hi, e⟩; exact ⟨i, by omega, e⟩
      · rintro ⟨i, hi, e⟩
        by_cases hij : i = j
        · subst hij; subst e
          exact (dist_mem ks _ i).1 h
        · exact ⟨i, by omega, e⟩
    · rw [dist_new ks j h]
      simp only [List.mem_append, List.mem_singleton, ih]
      constructor
      · rintro (⟨i, hi, e⟩ | e)
        · exact ⟨i, by omega, e⟩
        · exact ⟨j, by omega, e.symm⟩
      · rintro ⟨i, hi, e⟩
        by_cases hij : i = j
        · subst hij; exact .inr e.symm
        · exact .inl ⟨i, by omega, e⟩

theorem dist_length (ks : Nat → Key3) : ∀ j, (dist ks j).length ≤ j
  | 0 => by simp [dist]
  | j + 1 => by
    have := dist_length ks j
    by_cases h : ks j ∈ dist ks j
    · rw [dist_same ks j h]; omega
    · rw [dist_new ks j h]; simp; omega

theorem dist_prefix (ks : Nat → Key3) (i : Nat) : ∀ d, ∃ r, dist ks (i + d) = dist ks i ++ r
  | 0 => ⟨[], by simp⟩
  | d + 1 => by
    obtain ⟨r, hr⟩ := dist_prefix ks i d
    rw [← Nat.add_assoc]
    by_cases h : ks (i + d) ∈ dist ks (i + d)
    · exact ⟨r, by rw [dist_same ks _ h]; exact hr⟩
    · exact ⟨r ++ [ks (i + d)], by rw [dist_new ks _ h, hr]; simp⟩

theorem find_here (A r : List Key3) (q : Key3) (h : q ∉ A) : (A ++ q :: r).findIdx (fun x => decide (x = q)) = A.length := by
  induction A with
  | nil => simp [List.findIdx_cons]
  | cons x A ih =>
    have hx : ¬ x = q := fun e => h (by simp [e])
    have := ih (fun e => h (by simp [e]))
    simp [List.findIdx_cons, hx, this]

theorem pos_first (ks : Nat → Key3) (q : Key3) (i n : Nat) (hi : i < n) (hf : ∀ l, l < i → ks l ≠ q) (he : ks i = q) : posF ks i = posQ (dist ks n) q := by
  have hn : ks i ∉ dist ks i := by
    rw [dist_mem]
    rintro ⟨l, hl, e⟩
    exact hf l hl (e.trans he)
  obtain ⟨r, hr⟩ := dist_prefix ks (i + 1) (n - (i + 1))
  rw [show i + 1 + (n - (i + 1)) = n by omega, dist_new ks i hn, he] at hr
  have hm : q ∈ dist ks n := by rw [hr]; simp
  have hn' : q ∉ dist ks i := he ▸ hn
  unfold posF posQ
  rw [has_no hn, has_yes hm, hr, List.append_assoc]
  simp only [cond_true, cond_false]
  rw [List.singleton_append, find_here _ _ _ hn']

theorem pos_none (ks : Nat → Key3) (q : Key3) (n : Nat) (hf : ∀ l, l < n → ks l ≠ q) : posQ (dist ks n) q = -1 := by
  have : q ∉ dist ks n := by
    rw [dist_mem]
    rintro ⟨l, hl, e⟩
    exact hf l hl e
  simp [posQ, has_no this]

theorem find_at (D : List Key3) (q : Key3) (h : q ∈ D) : D[D.findIdx (fun x => decide (x = q))]? = some q := by
  have hl : D.findIdx (fun x => decide (x = q)) < D.length := List.findIdx_lt_length_of_exists ⟨q, h, by simp⟩
  rw [List.getElem?_eq_getElem hl]
  have := @List.findIdx_getElem _ (fun x => decide (x = q)) D hl
  exact congrArg some (of_decide_eq_true this)

theorem posQ_cases (D : List Key3) (q : Key3) : (q ∉ D ∧ posQ D q = -1) ∨ ∃ p : Nat, D[p]? = some q ∧ p < D.length ∧ posQ D q = (p : Int) := by
  by_cases h : q ∈ D
  · right
    have hf := find_at D q h
    exact ⟨_, hf, (List.getElem?_eq_some_iff.1 hf).1, by simp [posQ, has_yes h]⟩
  · exact .inl ⟨h, by simp [posQ, has_no h]⟩

theorem posF_same (ks : Nat → Key3) (j : Nat) (h : ks j ∈ dist ks j) : posF ks j = -1 := by simp [posF, has_yes h]
theorem posF_new (ks : Nat → Key3) (j : Nat) (h : ks j ∉ dist ks j) : posF ks j = ((dist ks j).length : Int) := by simp [posF, has_no h]

end Go.Proofs.Qxb6613157a
