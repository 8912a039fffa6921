import Derived.Test.Qxb6000923aCover
namespace Go.Proofs.Qxb6000923a.Relay
open Go.RowKit

theorem Facts.jbd {n : Nat} {k : Int} {L : Nat} {f : Nat → Int} {q : Int} {J : Nat → Int} (F : Facts n k L f q J) : ∀ m : Nat, 0 ≤ J m ∧ J m ≤ m
  | 0 => by rw [F.j0]; omega
  | m + 1 => by
    have h := F.jbd m
    have := F.jp m
    omega

set_option maxHeartbeats 400000 in
theorem spread_out (n k : Int) (w : World) (h : n < 0 ∨ 32768 < n) :
    Calls Try.prog 4 #[.int .i64 n, .int .i64 k] w fun e w' => e = .returned (.bool true) ∧ Below w.heap.size w w' := by
  by_cases h0 : n < 0
  all_goals
    go_enter Try.func4, Try.ntmps4
    go_wp2_with fail
    go_ret
    exact ⟨rfl, Below.refl _ _⟩

set_option maxHeartbeats 2000000 in
theorem spread_in (n : Nat) (k : Int) (w : World) (hn : n ≤ 32768) :
    Calls Try.prog 4 #[.int .i64 n, .int .i64 k] w fun e w' => e = .returned (.bool true) ∧ Below w.heap.size w w' := by
  have hd1 : decide ((n : Int) < 0) = false := by simp
  have hd2 : decide (32768 < (n : Int)) = false := by simp; omega
  go_enter Try.func4, Try.ntmps4
  go_wp2_with fail
  refine (relay_facts n k w hn).mono ?_
  rintro e w' ⟨L, f, q, J, F, rfl, hr, hb⟩
  by_cases hL0 : L = 0
  · obtain rfl := F.none hL0
    subst hL0
    go_wp2
    go_ret
    exact ⟨rfl, hb⟩
  · have hLp : 0 < L := by omega
    have hLb : ((L : Int) == 0) = false := by simp; omega
    have hLs := F.small
    have hc0 := hr.cell hLp
    have hf0 := F.first hLp
    simp only [hf0] at hc0
    clear hf0 hL0
    go_wp2_with fail
    go_loop [6, 7, 8, 9] (fun lo hi wd i => ∃ (m : Nat) (a b : Int), m ≤ L ∧ i = .int .i64 m ∧ lo = .int .i64 a ∧ hi = .int .i64 b ∧ wd = .int .i64 (J m) ∧ (J m = 0 ∨ 1 + q ≤ a ∧ a ≤ 2 + q ∧ 1 + q ≤ b ∧ b ≤ 2 + q)) (fun _ _ _ i => L - (intOf i).toNat)
    case atStart => exact ⟨0, 0, 0, by omega, rfl, rfl, rfl, by rw [F.j0], .inl F.j0⟩
    case round =>
      obtain ⟨m, a, b, hm, rfl, rfl, rfl, rfl, hab⟩ := hrel
      obtain ⟨j1, j2⟩ := F.jbd m
      have q1 := F.q1
      have q2 := F.q2
      by_cases hlt : m < L
      · have hc := hr.cell hlt
        rcases F.jp m with ⟨hj, hp⟩ | ⟨hj, hp⟩
        · have htwo := F.two m hp
          by_cases hz : J m = 0
          · have hzb : (J m == 0) = true := by simp [hz]
            have Hz : Hid (J m = 0) := hz
            have Hj : Hid (J m + 1 = J (m + 1)) := hj
            have f1 : f m ≤ 2 + q := by omega
            have f2 : 1 + q ≤ f m := by omega
            clear hz hj hab htwo
            go_wp2
            go_round
            case rel => exact ⟨m + 1, f m, f m, by omega, by go_num, rfl, rfl, by rw [← Hj.out], .inr ⟨f2, f1, f2, f1⟩⟩
            case measure => simp [intOf]; omega
          · have hzb : (J m == 0) = false := by simp [hz]
            have Hj : Hid (J m + 1 = J (m + 1)) := hj
            have f1 : f m ≤ 2 + q := by omega
            have f2 : 1 + q ≤ f m := by omega
            have a1 : 1 + q ≤ a := by omega
            have a2 : a ≤ 2 + q := by omega
            have b1 : 1 + q ≤ b := by omega
            have b2 : b ≤ 2 + q := by omega
            clear hz hj hab htwo
            go_wp2
            all_goals
              go_round
              case rel => exact ⟨m + 1, _, _, by omega, by go_num, rfl, rfl, by rw [← Hj.out], .inr ⟨by omega, by omega, by omega, by omega⟩⟩
              case measure => simp [intOf]; omega
        · have Hj : Hid (J m = J (m + 1)) := hj
          have Hp : Hid (f m = 1) := hp
          rw [hp] at hc
          have Hab : Hid (J m = 0 ∨ 1 + q ≤ a ∧ a ≤ 2 + q ∧ 1 + q ≤ b ∧ b ≤ 2 + q) := hab
          clear hp hj hab
          go_wp2
          go_round
          case rel => exact ⟨m + 1, a, b, by omega, by go_num, rfl, rfl, by rw [← Hj.out], by rw [← Hj.out]; exact Hab.out⟩
          case measure => simp [intOf]; omega
      · obtain rfl : m = L := by omega
        have hfar : (0 < J m ∧ b - a ≤ 1 ∧ -32768 ≤ b - a ∧ 1 + q ≤ a ∧ a ≤ 2 + q ∧ 1 + q ≤ b ∧ b ≤ 2 + q) ∨ decide (0 < J m) = false := by
          rcases hab with h | h
          · exact .inr (by simp [h])
          · by_cases h0 : 0 < J m
            · exact .inl ⟨h0, by omega, by omega, h⟩
            · exact .inr (by simpa using h0)
        clear hab
        by_cases h2 : 2 * J m ≤ m
        · have Hap : Hid (∀ i, 1 ≤ i → 1 < f i → f (i - 1) = 1) := F.apart h2
          rcases hfar with ⟨g1, g2, g3, g4, g5, g6, g7⟩ | g1
          all_goals
            go_wp2_with fail
            go_loop [11] (fun i => ∃ p : Nat, p + 1 ≤ m ∧ i = .int .i64 ((p : Int) + 1)) (fun i => m - (intOf i).toNat)
            case atStart => exact ⟨0, by omega, rfl⟩
            case round =>
              obtain ⟨p, hp, rfl⟩ := hrel
              by_cases hlt2 : p + 1 < m
              · have hc := hr.cell hlt2
                have hd := hr.cell (show p < m by omega)
                by_cases hw : 1 < f (p + 1)
                · have Hd : Hid (f p = 1) := Hap.out (p + 1) (by omega) hw
                  rw [Hd.out] at hd
                  go_wp2
                  go_round
                  case rel => exact ⟨p + 1, by omega, by go_num⟩
                  case measure => simp [intOf]; omega
                · have hwd : decide (1 < f (p + 1)) = false := by simpa using hw
                  go_wp2
                  go_round
                  case rel => exact ⟨p + 1, by omega, by go_num⟩
                  case measure => simp [intOf]; omega
              · go_wp2
                go_ret
                exact ⟨rfl, hb⟩
        · rcases hfar with ⟨g1, g2, g3, g4, g5, g6, g7⟩ | g1
          all_goals
            go_wp2
            go_ret
            exact ⟨rfl, hb⟩
end Go.Proofs.Qxb6000923a.Relay
