import Derived.Test.Qxb6000923aParts
namespace Go.Proofs.Qxb6000923a.Relay

def sumTo (f : Nat → Int) : Nat → Int
  | 0 => 0
  | m + 1 => sumTo f m + f m

theorem j_step (K W m : Int) (hW : 0 ≤ W) (hK : W < K) : (m + 1) * W / K = m * W / K ∨ (m + 1) * W / K = m * W / K + 1 := by
  have hK0 : 0 < K := by omega
  have e : (m + 1) * W = m * W + W := by rw [Int.add_mul]; omega
  rw [e]
  generalize m * W = a
  have h1 : a / K ≤ (a + W) / K := Int.ediv_le_ediv hK0 (by omega)
  have h2 : (a + W) / K < a / K + 2 := by
    rw [Int.ediv_lt_iff_lt_mul hK0]
    have h3 := Int.mul_ediv_add_emod a K
    have h4 := Int.emod_lt_of_pos a hK0
    have h5 : (a / K + 2) * K = K * (a / K) + 2 * K := by rw [Int.add_mul, Int.mul_comm]
    omega
  omega

theorem j_two (K W m : Int) (hK : 2 * W ≤ K) (hK0 : 0 < K) : (m + 2) * W / K ≤ m * W / K + 1 := by
  have e : (m + 2) * W = m * W + 2 * W := by rw [Int.add_mul]
  rw [e]
  generalize m * W = a
  have h2 : (a + 2 * W) / K < a / K + 2 := by
    rw [Int.ediv_lt_iff_lt_mul hK0]
    have h3 := Int.mul_ediv_add_emod a K
    have h4 := Int.emod_lt_of_pos a hK0
    have h5 : (a / K + 2) * K = K * (a / K) + 2 * K := by rw [Int.add_mul, Int.mul_comm]
    omega
  omega

/-- the facts on f that the two laws use -/
structure Facts (n : Nat) (k : Int) (L : Nat) (f : Nat → Int) (q : Int) (J : Nat → Int) : Prop where
  len : (L : Int) = if 3 ≤ k ∧ k < n then k else n
  small : L ≤ n
  none : L = 0 → n = 0
  q1 : 1 ≤ q
  q2 : q ≤ 32768
  lo : ∀ i, 1 ≤ f i
  two : ∀ i, 1 < f i → f i = 1 + q ∨ f i = 2 + q
  j0 : J 0 = 0
  jp : ∀ i, J i + 1 = J (i + 1) ∧ 1 < f i ∨ J i = J (i + 1) ∧ f i = 1
  first : 0 < L → f 0 = 1
  apart : 2 * J L ≤ L → ∀ i, 1 ≤ i → 1 < f i → f (i - 1) = 1
  sum : sumTo f L = n
  bound : ∀ m, m ≤ L → 0 ≤ sumTo f m ∧ sumTo f m ≤ n
  hi : ∀ i, i < L → f i ≤ n

theorem sumTo_nonneg (f : Nat → Int) (lo : ∀ i, 1 ≤ f i) : ∀ m : Nat, (m : Int) ≤ sumTo f m
  | 0 => by simp [sumTo]
  | m + 1 => by have := sumTo_nonneg f lo m; have := lo m; simp only [sumTo]; omega
theorem sumTo_mono (f : Nat → Int) (lo : ∀ i, 1 ≤ f i) (m : Nat) : ∀ d : Nat, sumTo f m + (d : Int) ≤ sumTo f (m + d)
  | 0 => by simp
  | d + 1 => by have := sumTo_mono f lo m d; have := lo (m + d); rw [← Nat.add_assoc]; simp only [sumTo]; omega
theorem sumTo_ones (f : Nat → Int) (h : ∀ i, f i = 1) : ∀ m : Nat, sumTo f m = m
  | 0 => rfl
  | m + 1 => by simp only [sumTo, sumTo_ones f h m, h m]; omega

theorem bound_of (n : Nat) (L : Nat) (f : Nat → Int) (lo : ∀ i, 1 ≤ f i) (hs : sumTo f L = n) : (∀ m, m ≤ L → 0 ≤ sumTo f m ∧ sumTo f m ≤ n) ∧ ∀ i, i < L → f i ≤ n := by
  have key : ∀ m, m ≤ L → 0 ≤ sumTo f m ∧ sumTo f m ≤ n := fun m hm => by
    have h1 := sumTo_nonneg f lo m
    have h2 := sumTo_mono f lo m (L - m)
    rw [show m + (L - m) = L from by omega, hs] at h2
    omega
  refine ⟨key, fun i hi => ?_⟩
  have h1 := key (i + 1) hi
  have h2 := sumTo_nonneg f lo i
  simp only [sumTo] at h1
  omega

theorem big_sum (K W R : Int) (f : Nat → Int) (hf : ∀ i : Nat, f i = part K W R i) (hW : 1 ≤ W) (hK : W < K) : ∀ m : Nat,
    sumTo f m = m + m * W / K * (R / W) + min (m * W / K) (R % W)
  | 0 => by
    have : 0 ≤ R % W := Int.emod_nonneg _ (by omega)
    simp [sumTo]; omega
  | m + 1 => by
    simp only [sumTo, big_sum K W R f hf hW hK m, hf m]
    have hc : ((m + 1 : Nat) : Int) = (m : Int) + 1 := by omega
    rw [hc]
    rcases j_step K W m (by omega) hK with h | h
    · unfold part
      rw [if_neg (by omega), h]
      omega
    · unfold part
      rw [if_pos (by omega), h, Int.add_mul]
      generalize (m : Int) * W / K * (R / W) = x
      split <;> omega

theorem facts (n : Nat) (k : Int) (L : Nat) (f : Nat → Int) (hn : n ≤ 32768) (h : Good n k L f) : ∃ q J, Facts n k L f q J := by
  rcases h with ⟨h1, rfl, h3⟩ | ⟨W, h1, h2, h3, h4, h5, h6, h7⟩
  · have hs := sumTo_ones f h3 L
    have hb := bound_of L L f (fun i => by rw [h3]; omega) hs
    exact ⟨1, fun _ => 0, { len := by rw [if_neg (by omega)], small := Nat.le_refl _, none := id, q1 := by omega, q2 := by omega, lo := fun i => (by rw [h3]; omega), two := fun i hi => (by rw [h3] at hi; omega), j0 := rfl, jp := fun i => .inr ⟨rfl, h3 i⟩, first := fun _ => h3 0, apart := fun _ i _ _ => h3 _, sum := hs, bound := hb.1, hi := hb.2 }⟩
  · have hL : 0 < (L : Int) := by omega
    have hq1 : 1 ≤ ((n : Int) - L) / W := by rw [Int.le_ediv_iff_mul_le (by omega)]; omega
    have hq2 : ((n : Int) - L) / W ≤ 32768 := Int.le_trans (Int.ediv_le_self _ (by omega)) (by omega)
    have hr0 : 0 ≤ ((n : Int) - L) % W := Int.emod_nonneg _ (by omega)
    have hr1 : ((n : Int) - L) % W < W := Int.emod_lt_of_pos _ (by omega)
    have hjL : (L : Int) * W / L = W := Int.mul_ediv_cancel_left _ (by omega)
    have hdm := Int.mul_ediv_add_emod ((n : Int) - L) W
    have hs : sumTo f L = n := by
      rw [big_sum L W (n - L) f h7 (by omega) (by omega) L, hjL]
      omega
    have lo : ∀ i, 1 ≤ f i := fun i => by
      rw [h7]; unfold part; split <;> (try split) <;> omega
    have hb := bound_of n L f lo hs
    have hjp : ∀ i : Nat, (i : Int) * W / L + 1 = ((i + 1 : Nat) : Int) * W / L ∧ 1 < f i ∨ (i : Int) * W / L = ((i + 1 : Nat) : Int) * W / L ∧ f i = 1 := fun i => by
      have hc : ((i + 1 : Nat) : Int) = (i : Int) + 1 := by omega
      rw [hc, h7]
      rcases j_step L W i (by omega) (by omega) with h | h
      · refine .inr ⟨h.symm, ?_⟩
        unfold part; rw [if_neg (by omega)]
      · refine .inl ⟨h.symm, ?_⟩
        unfold part; rw [if_pos (by omega)]; split <;> omega
    refine ⟨((n : Int) - L) / W, fun i => (i : Int) * W / L, { len := by rw [if_pos (by omega)]; omega, small := by omega, none := by omega, q1 := hq1, q2 := hq2, lo := lo, two := ?_, j0 := by simp, jp := hjp, first := ?_, apart := ?_, sum := hs, bound := hb.1, hi := hb.2 }⟩
    · intro i hi
      rw [h7] at hi ⊢
      unfold part at hi ⊢
      split
      · split <;> omega
      · rename_i hx; rw [if_neg hx] at hi; omega
    · intro _
      rw [h7]; unfold part
      have : (W : Int) / L = 0 := Int.ediv_eq_zero_of_lt (by omega) (by omega)
      rw [if_neg (by simp; omega)]
    · intro h2 i hi hw
      simp only [hjL] at h2
      obtain ⟨p, rfl⟩ : ∃ p, i = p + 1 := ⟨i - 1, by omega⟩
      rw [show p + 1 - 1 = p from by omega]
      have a1 := hjp p
      have a2 := hjp (p + 1)
      have a3 := j_two L W p (by omega) hL
      rw [show ((p + 1 + 1 : Nat) : Int) = (p : Int) + 2 from by omega] at a2
      omega
end Go.Proofs.Qxb6000923a.Relay
