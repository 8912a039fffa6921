import Derived.Test.Qxb6000923aEven
namespace Go.Proofs.Qxb6000923a.Relay
open Go.RowKit

theorem sumTo_succ (f : Nat → Int) (m : Nat) : sumTo f m + f m = sumTo f (m + 1) := rfl

theorem relay_facts (n : Nat) (k : Int) (w : World) (hn : n ≤ 32768) :
    Calls Try.prog 10 #[.int .i64 n, .int .i64 k] w fun e w' => ∃ L f q J, Facts n k L f q J ∧ e = .returned (.slice (some ⟨w.heap.size + 1, 0, none⟩) L L) ∧
      w'.rowIs (w.heap.size + 1) 3 L (fun i => .int .i64 (f i)) ∧ Below w.heap.size w w' := by
  refine (relay_any n k w hn).mono ?_
  rintro e w' ⟨L, f, hG, rfl, hr, hb⟩
  obtain ⟨q, J, F⟩ := facts n k L f hn hG
  exact ⟨L, f, q, J, F, rfl, hr, hb⟩

theorem Facts.ne_yes {n : Nat} {k : Int} {L : Nat} {f : Nat → Int} {q : Int} {J : Nat → Int} (F : Facts n k L f q J) (h3 : 3 ≤ k) (h : k < n) : ((L : Int) != k) = false := by
  have hl := F.len
  rw [if_pos ⟨h3, h⟩] at hl
  simp [hl]
theorem Facts.ne_no {n : Nat} {k : Int} {L : Nat} {f : Nat → Int} {q : Int} {J : Nat → Int} (F : Facts n k L f q J) (h : ¬ 3 ≤ k ∨ ¬ k < n) : ((L : Int) != n) = false := by
  have hl := F.len
  rw [if_neg (by omega)] at hl
  simp [hl]

set_option maxHeartbeats 400000 in
theorem cover_out (n k : Int) (w : World) (h : n < 0 ∨ 32768 < n) :
    Calls Try.prog 3 #[.int .i64 n, .int .i64 k] w fun e w' => e = .returned (.bool true) ∧ Below w.heap.size w w' := by
  by_cases h0 : n < 0
  all_goals
    go_enter Try.func3, Try.ntmps3
    go_wp2_with fail
    go_ret
    exact ⟨rfl, Below.refl _ _⟩

set_option maxHeartbeats 1000000 in
theorem cover_in (n : Nat) (k : Int) (w : World) (hn : n ≤ 32768) :
    Calls Try.prog 3 #[.int .i64 n, .int .i64 k] w fun e w' => e = .returned (.bool true) ∧ Below w.heap.size w w' := by
  have hd1 : decide ((n : Int) < 0) = false := by simp
  have hd2 : decide (32768 < (n : Int)) = false := by simp; omega
  by_cases h3 : 3 ≤ k
  · by_cases hkn : k < n
    all_goals
      go_enter Try.func3, Try.ntmps3
      go_wp2_with (go_at_call 10; refine (relay_facts n k w hn).mono ?_; rintro e w' ⟨L, f, q, J, F, rfl, hr, hb⟩; first | have ht := F.ne_yes h3 hkn | have ht := F.ne_no (.inr hkn))
      go_loop [7, 8] (fun s i => ∃ m : Nat, m ≤ L ∧ i = .int .i64 m ∧ s = .int .i64 (sumTo f m)) (fun _ i => L - (intOf i).toNat)
      case atStart => exact ⟨0, by omega, rfl, rfl⟩
      case round =>
        obtain ⟨m, hm, rfl, rfl⟩ := hrel
        have hL := F.small
        obtain ⟨s1, s2⟩ := F.bound m hm
        by_cases hlt : m < L
        · have hc := hr.cell hlt
          have f1 := F.lo m
          have f2 := F.hi m hlt
          go_wp2
          go_round
          case rel => exact ⟨m + 1, by omega, by go_num, rfl⟩
          case measure => simp [intOf]; omega
        · have hs : sumTo f m = n := by rw [show m = L from by omega]; exact F.sum
          go_wp2
          go_ret
          exact ⟨by simp, hb⟩
  · have hk3 : decide (3 ≤ k) = false := by simpa using h3
    go_enter Try.func3, Try.ntmps3
    go_wp2_with (go_at_call 10; refine (relay_facts n k w hn).mono ?_; rintro e w' ⟨L, f, q, J, F, rfl, hr, hb⟩; have ht := F.ne_no (.inl h3))
    go_loop [7, 8] (fun s i => ∃ m : Nat, m ≤ L ∧ i = .int .i64 m ∧ s = .int .i64 (sumTo f m)) (fun _ i => L - (intOf i).toNat)
    case atStart => exact ⟨0, by omega, rfl, rfl⟩
    case round =>
      obtain ⟨m, hm, rfl, rfl⟩ := hrel
      have hL := F.small
      obtain ⟨s1, s2⟩ := F.bound m hm
      by_cases hlt : m < L
      · have hc := hr.cell hlt
        have f1 := F.lo m
        have f2 := F.hi m hlt
        go_wp2
        go_round
        case rel => exact ⟨m + 1, by omega, by go_num, rfl⟩
        case measure => simp [intOf]; omega
      · have hs : sumTo f m = n := by rw [show m = L from by omega]; exact F.sum
        go_wp2
        go_ret
        exact ⟨by simp, hb⟩
end Go.Proofs.Qxb6000923a.Relay
