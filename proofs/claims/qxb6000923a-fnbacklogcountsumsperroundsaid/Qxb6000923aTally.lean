import Derived.Test.Qxb6000923aCount
namespace Go.Proofs.Qxb6000923a.Due
open Go.RowKit

/-- the wrapping sum of the first n ks whose due is q -/
def S (d e : Nat → Int) : Nat → Int → Int
  | 0, _ => 0
  | n + 1, q => if d n = q then wrap64 (S d e n q + e n) else S d e n q

theorem S_zero (d e : Nat → Int) : S d e 0 = fun _ => 0 := rfl
theorem S_yes (d e : Nat → Int) (n : Nat) {q : Int} (h : d n = q) : S d e (n + 1) q = wrap64 (S d e n q + e n) := if_pos h
theorem S_no (d e : Nat → Int) (n : Nat) {q : Int} (h : d n ≠ q) : S d e (n + 1) q = S d e n q := if_neg h
theorem S_upd (d e : Nat → Int) (n : Nat) : upd (S d e n) (d n) (wrap64 (S d e n (d n) + e n)) = S d e (n + 1) := by
  funext x
  by_cases h : x = d n
  · subst h; rw [upd_same, S_yes d e n rfl]
  · rw [upd_other _ _ h, S_no d e n (fun e => h e.symm)]

/-- is round i the first of its due? -/
def firstB (d : Nat → Int) (i : Nat) : Bool := decide (∀ j, j < i → d j ≠ d i)

/-- the dues of the first n rounds, each once -/
def U (d : Nat → Int) : Nat → List Int
  | 0 => []
  | n + 1 => if firstB d n = true then U d n ++ [d n] else U d n

theorem mem_U (d : Nat → Int) (q : Int) : ∀ n, q ∈ U d n ↔ ∃ i, i < n ∧ d i = q
  | 0 => by simp [U]
  | n + 1 => by
    have ih := mem_U d q n
    unfold U
    by_cases h : firstB d n = true
    · rw [if_pos h, List.mem_append, ih, List.mem_singleton]
      constructor
      · rintro (⟨i, hi, e⟩ | e)
        · exact ⟨i, by omega, e⟩
        · exact ⟨n, by omega, e.symm⟩
      · rintro ⟨i, hi, e⟩
        by_cases hn : i = n
        · subst hn; exact .inr e.symm
        · exact .inl ⟨i, by omega, e⟩
    · rw [if_neg h, ih]
      constructor
      · rintro ⟨i, hi, e⟩
        exact ⟨i, by omega, e⟩
      · rintro ⟨i, hi, e⟩
        by_cases hn : i = n
        · subst hn
          have h' : ¬ ∀ j, j < i → d j ≠ d i := fun hh => h (decide_eq_true hh)
          obtain ⟨j, hj⟩ := Classical.not_forall.1 h'
          obtain ⟨hj1, hj2⟩ := Classical.not_imp.1 hj
          exact ⟨j, hj1, (Classical.not_not.1 hj2).trans e⟩
        · exact ⟨i, by omega, e⟩

theorem nodup_U (d : Nat → Int) : ∀ n, (U d n).Nodup
  | 0 => by simp [U]
  | n + 1 => by
    have ih := nodup_U d n
    unfold U
    by_cases h : firstB d n = true
    · rw [if_pos h, List.nodup_append]
      refine ⟨ih, by simp, ?_⟩
      intro a ha b hb e
      rw [List.mem_singleton] at hb
      subst hb
      subst e
      obtain ⟨i, hi, e⟩ := (mem_U d _ n).1 ha
      exact of_decide_eq_true h i hi e
    · rw [if_neg h]; exact ih

/-- how many of a list's keys hold a number that is not nought -/
def cnt (g : Int → Int) : List Int → Nat
  | [] => 0
  | x :: l => one (g x) + cnt g l

theorem one_le (n : Int) : one n ≤ 1 := by unfold one; split <;> omega
theorem cnt_le (g : Int → Int) : ∀ l, cnt g l ≤ l.length
  | [] => Nat.le_refl _
  | x :: l => by have := cnt_le g l; have := one_le (g x); simp only [cnt, List.length_cons]; omega
theorem cnt_snoc (g : Int → Int) (x : Int) : ∀ l, cnt g (l ++ [x]) = cnt g l + one (g x)
  | [] => by simp [cnt]
  | y :: l => by simp only [List.cons_append, cnt, cnt_snoc g x l]; omega
theorem cnt_zero : ∀ l, cnt (fun _ => 0) l = 0
  | [] => rfl
  | _ :: l => by simp [cnt, cnt_zero l, one]
theorem cnt_off (g : Int → Int) (q v : Int) : ∀ l, q ∉ l → cnt (upd g q v) l = cnt g l
  | [], _ => rfl
  | x :: l, h => by
    rw [List.mem_cons] at h
    simp only [cnt, cnt_off g q v l (fun hh => h (.inr hh))]
    rw [upd_other g v (fun hh => h (.inl hh.symm))]
theorem cnt_upd (g : Int → Int) (q v : Int) : ∀ l, l.Nodup → q ∈ l → cnt (upd g q v) l + one (g q) = cnt g l + one v
  | [], _, h => by cases h
  | x :: l, hn, h => by
    rw [List.nodup_cons] at hn
    by_cases e : q = x
    · subst e
      simp only [cnt, cnt_off g q v l hn.1, upd_same]
      omega
    · rw [List.mem_cons] at h
      have ih := cnt_upd g q v l hn.2 (h.resolve_left e)
      simp only [cnt]
      rw [upd_other g v (fun hh => e hh.symm)]
      omega

theorem U_len (d : Nat → Int) : ∀ n, (U d n).length ≤ n
  | 0 => by simp [U]
  | n + 1 => by
    have := U_len d n
    unfold U
    split
    · simp; omega
    · omega

/-- one count of the script, on the number of entries -/
theorem cnt_count (d e : Nat → Int) (n m : Nat) (h : n < m) {c' : Nat} (hc : c' + one (S d e n (d n)) = cnt (S d e n) (U d m) + one (wrap64 (S d e n (d n) + e n))) : c' = cnt (S d e (n + 1)) (U d m) := by
  have h1 := cnt_upd (S d e n) (d n) (wrap64 (S d e n (d n) + e n)) (U d m) (nodup_U d m) ((mem_U d _ m).2 ⟨n, h, rfl⟩)
  rw [S_upd] at h1
  omega

theorem nz_first (d : Nat → Int) (g : Int → Int) (i : Nat) (h : firstB d i = true) (h0 : g (d i) ≠ 0) : cnt g (U d (i + 1)) = cnt g (U d i) + 1 := by
  show cnt g (if firstB d i = true then U d i ++ [d i] else U d i) = _
  rw [if_pos h, cnt_snoc]
  simp [one, h0]
theorem nz_later (d : Nat → Int) (g : Int → Int) (i : Nat) (h : firstB d i = false) : cnt g (U d (i + 1)) = cnt g (U d i) := by
  show cnt g (if firstB d i = true then _ else _) = _
  rw [if_neg (by simp [h])]
theorem nz_nought (d : Nat → Int) (g : Int → Int) (i : Nat) (h0 : g (d i) = 0) : cnt g (U d (i + 1)) = cnt g (U d i) := by
  show cnt g (if firstB d i = true then U d i ++ [d i] else U d i) = _
  split
  · rw [cnt_snoc]; simp [one, h0]
  · rfl
theorem nz_le (d : Nat → Int) (g : Int → Int) (i : Nat) : cnt g (U d i) ≤ i := Nat.le_trans (cnt_le g _) (U_len d i)
end Go.Proofs.Qxb6000923a.Due
