import Derived.Test.Qxb6000923aRepeat
namespace Go.Proofs.Qxb6000923a.Relay
open Go.RowKit

theorem row_ones (w : World) (g n : Nat) (h : w.heap[g]? = some (.cells (List.replicate n oneV).toArray 3 (0, 0))) : w.rowIs g 3 n (fun _ => .int .i64 1) :=
  ⟨_, h, by simp, fun i hi => by simp [hi, oneV]⟩

theorem repeat_lit (n : Nat) (w : World) (hn : n ≤ 32768) :
    Calls Try.prog 31 #[.slice (some ⟨w.heap.size, 0, none⟩) 1 1, .int .i64 n] (w.alloc (.cells #[.int .i64 1] 3)) fun e w' =>
      e = .returned (.slice (some ⟨w.heap.size + 1, 0, none⟩) n n) ∧ w'.rowIs (w.heap.size + 1) 3 n (fun _ => .int .i64 1) ∧ Below w.heap.size w w' := by
  refine (repeat_all n ⟨w.heap.size, 0, none⟩ (w.alloc (.cells #[.int .i64 1] 3)) hn ?_).mono ?_
  · unfold World.cell?
    rw [(MapKept.heap_alloc w (.cells #[.int .i64 1] 3)).1]
    rfl
  · rintro e w' ⟨rfl, hh, hb⟩
    have hs : (w.alloc (.cells #[.int .i64 1] 3)).heap.size = w.heap.size + 1 := by simp
    rw [hs] at hh hb ⊢
    exact ⟨rfl, row_ones _ _ _ hh, (((Below.refl _ _).alloc (Nat.le_refl _) _).trans (hb.mono (by omega)))⟩

set_option maxHeartbeats 400000 in
theorem parts_small (n : Nat) (k : Int) (w : World) (hn : n ≤ 32768) (hk : k < 3 ∨ (n : Int) ≤ k) :
    Calls Try.prog 28 #[.int .i64 n, .int .i64 k] w fun e w' => e = .returned (.slice (some ⟨w.heap.size + 1, 0, none⟩) n n) ∧
      w'.rowIs (w.heap.size + 1) 3 n (fun _ => .int .i64 1) ∧ Below w.heap.size w w' := by
  by_cases h3 : k < 3
  all_goals
    go_enter Try.func28, Try.ntmps28
    go_wp2_with (go_at_call 31; refine (repeat_lit n w hn).mono ?_; rintro e w' ⟨rfl, hr, hb⟩)
    go_ret
    exact ⟨rfl, hr, hb⟩

/-- the size of part m, by the text of relayParts: K parts, W of them wide, R members past the first ones -/
def part (K W R m : Int) : Int := if m * W / K < (m + 1) * W / K then (if m * W / K < R % W then 1 + R / W + 1 else 1 + R / W) else 1
def rowAt (K W R : Int) (m i : Nat) : Value := .int .i64 (if i < m then part K W R i else 1)

theorem part_more {K W R m : Int} (hA : m * W / K < (m + 1) * W / K) (hB : m * W / K < R % W) : 1 + R / W + 1 = part K W R m := by
  unfold part; rw [if_pos hA, if_pos hB]
theorem part_wide {K W R m : Int} (hA : m * W / K < (m + 1) * W / K) (hB : R % W ≤ m * W / K) : 1 + R / W = part K W R m := by
  unfold part; rw [if_pos hA, if_neg (by omega)]
theorem part_one {K W R m : Int} (hA : ¬ m * W / K < (m + 1) * W / K) : 1 = part K W R m := by
  unfold part; rw [if_neg hA]

theorem grow_lt (k reach : Int) (h3 : 3 ≤ k) (h : k ≤ reach) : reach < k + (k - 1) * reach := by
  have h1 : 2 * reach ≤ (k - 1) * reach := Int.mul_le_mul_of_nonneg_right (by omega) (by omega)
  omega

/-- what the loop over 'reach' leaves: the number of wide parts -/
theorem wide_facts (n k inner reach : Int) (h3 : 3 ≤ k) (hkn : k < n) (hlt : n ≤ reach) (hr : reach = k ∨ k ≤ inner ∧ inner < n ∧ reach = k + (k - 1) * inner) :
    3 ≤ inner ∧ inner < n ∧ 1 ≤ (n - k + inner - 1) / inner ∧ (n - k + inner - 1) / inner < k ∧ (n - k + inner - 1) / inner ≤ n - k := by
  rcases hr with h | ⟨h1, h2, h4⟩
  · omega
  · have hi : 0 < inner := by omega
    refine ⟨by omega, h2, ?_, ?_, ?_⟩
    · rw [Int.le_ediv_iff_mul_le hi]; omega
    · rw [Int.ediv_lt_iff_lt_mul hi]
      have : k * inner = (k - 1) * inner + inner := by rw [Int.sub_mul]; omega
      omega
    · rw [← Int.lt_add_one_iff, Int.ediv_lt_iff_lt_mul hi]
      have : (n - k) * 1 ≤ (n - k) * inner := Int.mul_le_mul_of_nonneg_left (by omega) (by omega)
      rw [Int.add_mul]; omega

theorem mul_bd (a b : Int) (ha : 0 ≤ a) (hb : 0 ≤ b) (ha2 : a ≤ 32768) (hb2 : b ≤ 32768) : 0 ≤ a * b ∧ a * b ≤ 1073741824 :=
  ⟨Int.mul_nonneg ha hb, Int.mul_le_mul ha2 hb2 hb (by omega)⟩

theorem div_bd (R W : Int) (h0 : 0 ≤ R) (h1 : R ≤ 32768) (hW : 1 ≤ W) : 0 ≤ R / W ∧ R / W ≤ 32768 ∧ 0 ≤ R % W ∧ R % W < W :=
  ⟨Int.ediv_nonneg h0 (by omega), Int.le_trans (Int.ediv_le_self _ h0) h1, Int.emod_nonneg _ (by omega), Int.emod_lt_of_pos _ (by omega)⟩

theorem row_step (w : World) (g n : Nat) (K W R : Int) (m : Nat) (hr : w.rowIs g 3 n (rowAt K W R m)) (v : Int) (hv : v = part K W R m) :
    (w.setCell ⟨g, m, none⟩ (.int .i64 v)).rowIs g 3 n (rowAt K W R (m + 1)) := by
  refine (hr.set m (.int .i64 v)).congr fun i _ => ?_
  subst hv
  by_cases e : i = m
  · subst e; simp [rowAt]
  · have : (i < m + 1) = (i < m) := by apply propext; omega
    simp [rowAt, e, this]

theorem row_step2 (w : World) (g n : Nat) (K W R : Int) (m : Nat) (hr : w.rowIs g 3 n (rowAt K W R m)) (u : Value) (v : Int) (hv : v = part K W R m) :
    ((w.setCell ⟨g, m, none⟩ u).setCell ⟨g, m, none⟩ (.int .i64 v)).rowIs g 3 n (rowAt K W R (m + 1)) := by
  refine ((hr.set m u).set m (.int .i64 v)).congr fun i _ => ?_
  subst hv
  by_cases e : i = m
  · subst e; simp [rowAt]
  · have : (i < m + 1) = (i < m) := by apply propext; omega
    simp [rowAt, e, this]

theorem row_same (w : World) (g n : Nat) (K W R : Int) (m : Nat) (hr : w.rowIs g 3 n (rowAt K W R m)) (hv : 1 = part K W R m) :
    w.rowIs g 3 n (rowAt K W R (m + 1)) := by
  refine hr.congr fun i _ => ?_
  by_cases e : i = m
  · subst e; simp [rowAt, ← hv]
  · have : (i < m + 1) = (i < m) := by apply propext; omega
    simp [rowAt, this]

set_option maxHeartbeats 1000000 in
theorem parts_big (n k : Nat) (w : World) (hn : n ≤ 32768) (hk3 : 3 ≤ k) (hkn : k < n) :
    Calls Try.prog 28 #[.int .i64 n, .int .i64 k] w fun e w' => ∃ W : Nat, 1 ≤ W ∧ W < k ∧ W ≤ n - k ∧ e = .returned (.slice (some ⟨w.heap.size + 1, 0, none⟩) k k) ∧
      w'.rowIs (w.heap.size + 1) 3 k (fun i => .int .i64 (part k W (n - k) i)) ∧ Below w.heap.size w w' := by
  have hd1 : decide ((k : Int) < 3) = false := by simp; omega
  have hd2 : decide ((n : Int) ≤ k) = false := by simp; omega
  go_enter Try.func28, Try.ntmps28
  go_wp2_with (go_at_call 31; refine (repeat_lit k w (by omega)).mono ?_; rintro e w' ⟨rfl, hr, hb⟩)
  go_loop [6, 7] (fun a b => ∃ inner reach : Int, a = .int .i64 inner ∧ b = .int .i64 reach ∧ k ≤ reach ∧ reach ≤ 1073741824 ∧ (reach = k ∨ k ≤ inner ∧ inner < n ∧ reach = k + (k - 1) * inner)) (fun _ b => (n - intOf b).toNat)
  case atStart => exact ⟨0, k, rfl, rfl, by omega, by omega, .inl rfl⟩
  case round =>
    obtain ⟨inner, reach, rfl, rfl, hr1, hr2, hr3⟩ := hrel
    by_cases hlt : reach < n
    · have hm1 : 0 ≤ ((k : Int) - 1) * reach := Int.mul_nonneg (by omega) (by omega)
      have hm2 : ((k : Int) - 1) * reach ≤ 32767 * 32767 := Int.mul_le_mul (by omega) (by omega) (by omega) (by omega)
      have hm3 := grow_lt k reach (by omega) hr1
      clear hr3
      go_wp2
      go_round
      case rel => exact ⟨reach, k + (k - 1) * reach, rfl, rfl, by omega, by omega, .inr ⟨by omega, by omega, rfl⟩⟩
      case measure =>
        simp [intOf]
        omega
    · obtain ⟨hw0, hw1, hw2, hw3, hw4⟩ := wide_facts n k inner reach (by omega) (by omega) (by omega) hr3
      clear hr3
      obtain ⟨W, hW⟩ : ∃ W : Nat, ((n : Int) - k + inner - 1) / inner = W := ⟨(((n : Int) - k + inner - 1) / inner).toNat, by omega⟩
      rw [hW] at hw2 hw3 hw4
      go_wp2_with fail
      clear hW
      have hin : 0 ≤ inner := by omega
      clear hw0 hw1
      go_loopw [47] (fun c wr => ∃ m : Nat, m ≤ k ∧ c = .int .i64 m ∧ wr.rowIs (w.heap.size + 1) 3 k (rowAt k W (n - k) m) ∧ Below w.heap.size w wr) (fun c _ => k - (intOf c).toNat)
      case atStart => exact ⟨0, by omega, rfl, hr.congr (fun i _ => by simp [rowAt]), hb⟩
      case round =>
        clear hr hb
        obtain ⟨m, hm, rfl, hrow, hb⟩ := hrel
        by_cases hmk : m < k
        · have hc := hrow.cell hmk
          have hf := hrow.frozen m
          rw [show rowAt k W (n - k) m m = .int .i64 1 from by simp [rowAt]] at hc
          have b1 := mul_bd m W (by omega) (by omega) (by omega) (by omega)
          have b2 := mul_bd (m + 1) W (by omega) (by omega) (by omega) (by omega)
          have b3 := div_bd (n - k) W (by omega) (by omega) (by omega)
          obtain ⟨b11, b12⟩ := b1
          obtain ⟨b21, b22⟩ := b2
          obtain ⟨b31, b32, b33, b34⟩ := b3
          by_cases hA : (m : Int) * W / k < (m + 1) * W / k
          · by_cases hB : (m : Int) * W / k < ((n : Int) - k) % W
            · go_wp2
              go_region
              go_wp2
              go_roundw
              case rel => exact ⟨m + 1, by omega, by go_num, row_step2 wr _ k k W (n - k) m hrow _ _ (part_more hA hB), ((hb.setCell (by simp) _).setCell (by simp) _).drew⟩
              case measure => simp [intOf]; omega
            · go_wp2
              go_region
              go_wp2
              go_roundw
              case rel => exact ⟨m + 1, by omega, by go_num, row_step wr _ k k W (n - k) m hrow _ (part_wide hA hB), (hb.setCell (by simp) _).drew⟩
              case measure => simp [intOf]; omega
          · go_wp2
            go_roundw
            case rel => exact ⟨m + 1, by omega, by go_num, row_same wr _ k k W (n - k) m hrow (part_one hA), hb⟩
            case measure => simp [intOf]; omega
        · go_wp2
          go_ret
          obtain rfl : m = k := by omega
          exact ⟨W, by omega, by omega, by omega, rfl, hrow.congr (fun i hi => by simp [rowAt, hi]), hb⟩

/-- what relayParts hands back, as plain numbers: L parts, part i of f i members -/
def Good (n : Nat) (k : Int) (L : Nat) (f : Nat → Int) : Prop :=
  (k < 3 ∨ (n : Int) ≤ k) ∧ L = n ∧ (∀ i, f i = 1) ∨
  ∃ W : Nat, 3 ≤ k ∧ k < n ∧ k = L ∧ 1 ≤ W ∧ W < L ∧ W ≤ n - L ∧ ∀ i, f i = part L W (n - L) i

theorem parts_any (n : Nat) (k : Int) (w : World) (hn : n ≤ 32768) :
    Calls Try.prog 28 #[.int .i64 n, .int .i64 k] w fun e w' => ∃ L f, Good n k L f ∧ e = .returned (.slice (some ⟨w.heap.size + 1, 0, none⟩) L L) ∧
      w'.rowIs (w.heap.size + 1) 3 L (fun i => .int .i64 (f i)) ∧ Below w.heap.size w w' := by
  by_cases hk : k < 3 ∨ (n : Int) ≤ k
  · refine (parts_small n k w hn hk).mono ?_
    rintro e w' ⟨rfl, hr, hb⟩
    exact ⟨n, fun _ => 1, .inl ⟨hk, rfl, fun _ => rfl⟩, rfl, hr, hb⟩
  · obtain ⟨K, rfl⟩ := Int.eq_ofNat_of_zero_le (show 0 ≤ k by omega)
    refine (parts_big n K w hn (by omega) (by omega)).mono ?_
    rintro e w' ⟨W, h1, h2, h3, rfl, hr, hb⟩
    exact ⟨K, fun i => part K W (n - K) i, .inr ⟨W, by omega, by omega, rfl, h1, h2, h3, fun _ => rfl⟩, rfl, hr, hb⟩

set_option maxHeartbeats 400000 in
theorem relay_any (n : Nat) (k : Int) (w : World) (hn : n ≤ 32768) :
    Calls Try.prog 10 #[.int .i64 n, .int .i64 k] w fun e w' => ∃ L f, Good n k L f ∧ e = .returned (.slice (some ⟨w.heap.size + 1, 0, none⟩) L L) ∧
      w'.rowIs (w.heap.size + 1) 3 L (fun i => .int .i64 (f i)) ∧ Below w.heap.size w w' := by
  go_enter Try.func10, Try.ntmps10
  go_wp2_with (go_at_call 28; refine (parts_any n k w hn).mono ?_; rintro e w' ⟨L, f, hG, rfl, hr, hb⟩)
  go_ret
  exact ⟨L, f, hG, rfl, hr, hb⟩
end Go.Proofs.Qxb6000923a.Relay
