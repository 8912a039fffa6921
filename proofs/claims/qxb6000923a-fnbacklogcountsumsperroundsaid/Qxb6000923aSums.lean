import Derived.Test.Qxb6000923aTally
import Derived.Test.Qxb6000923aSame
import Derived.BigQuiet
import Derived.Deep.RegionWith
import Derived.Deep.QuietTactic
namespace Go.Proofs.Qxb6000923a
open Go.RowKit Go.Maps
namespace Due

theorem below_draws {B : Nat} {a w : World} (h : Below B a w) (n : Nat) : Below B a (w.drewN n) := ⟨h.os, h.tape, h.output, h.size, h.block⟩

theorem after_step {w2 wr w4 : World} {B k M : Nat} {d ks : Nat → Int} (hlt : k < M) (hb : Below B w2 wr) (hA : After wr.drew w4 B k (S d ks k) (cnt (S d ks k) (U d M)) (d k) (ks k)) :
    DueAt w4 B (k + 1) (S d ks (k + 1)) (cnt (S d ks (k + 1)) (U d M)) ∧ Below B w2 w4 := by
  obtain ⟨h1, c', h2, h3⟩ := hA
  rw [S_upd] at h2
  rw [cnt_count d ks k M hlt h3] at h2
  exact ⟨h2, (hb.drew).trans h1⟩

theorem own_row {k : IntKind} {t : TypeId} {w : World} {base : Nat} {a : Option Addr} {len : Nat} {z : Nat → Int} (h : Own k t w base a len z) (h0 : 0 < len) :
    ∃ g, a = some ⟨g, 0, none⟩ ∧ g < w.heap.size ∧ ∀ i, i < len → w.cell? ⟨g, i, none⟩ = some (.int k (z i)) := by
  rcases h with ⟨_, h⟩ | ⟨g, rfl, hg, hr⟩
  · omega
  · exact ⟨g, rfl, hr.lt, fun i hi => hr.cell hi⟩

set_option maxRecDepth 100000 in
set_option maxHeartbeats 4000000 in
theorem sums_walk (a0 : Option Addr) (len0 cap0 : Nat) (z0 : List Int) (a1 : Option Addr) (len1 cap1 : Nat) (z1 : List Int) (w : World) (w0 : IsRow .u64 w a0 len0 cap0 z0) (w1 : IsRow .i64 w a1 len1 cap1 z1) :
    Calls Try.prog 7 #[.slice a0 len0 cap0, .slice a1 len1 cap1] w fun e w' => e = .returned (.bool true) ∧ Below w.heap.size w w' := by
  obtain ⟨hm0, hz0⟩ := w0.len_le
  have hm1 := w1.len_le.1
  obtain ⟨d, hd⟩ : ∃ d : Nat → Int, (fun i => z0.getD i 0) = d := ⟨_, rfl⟩
  obtain ⟨ks, he⟩ : ∃ ks : Nat → Int, (fun i => z1.getD i 0) = ks := ⟨_, rfl⟩
  have HZ : Hid (∀ i, i < len0 → Wf (d i)) := by rw [← hd]; exact hz0
  have HD : Hid ((fun i => z0.getD i 0) = d) := hd
  have HE : Hid ((fun i => z1.getD i 0) = ks) := he
  have W0 : Hid (IsRow .u64 w a0 len0 cap0 z0) := w0
  have W1 : Hid (IsRow .i64 w a1 len1 cap1 z1) := w1
  clear hz0 w0 w1 hd he
  go_enter Try.func7, Try.ntmps7
  go_wp2_with fail
  refine (bytes19 a0 a1 len0 cap0 len1 cap1 w hm0 hm1).mono ?_
  rintro e w' ⟨b, rfl, rfl⟩
  unfold maxLen at hm0 hm1
  cases b
  · go_wp2
    go_ret
    exact ⟨rfl, Below.refl _ _⟩
  by_cases hl0 : 4096 < len0
  · go_wp2
    go_ret
    exact ⟨rfl, Below.refl _ _⟩
  by_cases hl1 : 4096 < len1
  · go_wp2
    go_ret
    exact ⟨rfl, Below.refl _ _⟩
  have hd0 : decide (4096 < (len0 : Int)) = false := by simp; omega
  have hd1 : decide (4096 < (len1 : Int)) = false := by simp; omega
  have hn0 : len0 ≤ 4096 := by omega
  have hn1 : len1 ≤ 4096 := by omega
  clear hm0 hm1 hl0 hl1
  go_wp2_with fail
  refine (Clone.u64_any a0 len0 cap0 z0 w W0.out hn0).mono ?_
  rintro e w1 ⟨a0', rfl, ho0, hb1⟩
  rw [HD.out] at ho0
  have HO0 : Hid (Own .u64 30 w1 w.heap.size a0' len0 d) := ho0
  clear ho0
  go_wp2_with fail
  refine (Clone.i64_any a1 len1 cap1 z1 w1 (W1.out.later hb1) hn1).mono ?_
  rintro e w2 ⟨a1', rfl, ho1, hb2⟩
  rw [HE.out] at ho1
  have HO1 : Hid (Own .i64 3 w2 w1.heap.size a1' len1 ks) := ho1
  have HO0' : Hid (Own .u64 30 w2 w.heap.size a0' len0 d) := HO0.out.later hb2
  clear ho1 HO0 W0 W1 HD HE
  go_wp2_with fail
  refine (pair a0' a1' len0 len0 len1 len1 w2).mono ?_
  rintro e w' ⟨rfl, rfl⟩
  obtain ⟨M, hM⟩ : ∃ M, min len0 len1 = M := ⟨_, rfl⟩
  have hM0 : M ≤ len0 := by omega
  have hM1 : M ≤ len1 := by omega
  rw [hM]
  clear hM
  go_wp2_with fail
  refine (newBacklog w2).mono ?_
  rintro e w3 ⟨rfl, hD3, hb3⟩
  have hw2 : w.heap.size ≤ w2.heap.size := Nat.le_trans hb1.size hb2.size
  have hbw2 : Below w.heap.size w w2 := hb1.trans (hb2.mono hb1.size)
  clear hb1 hb2
  go_wp2_with fail
  go_loopw [7] (fun i wr => ∃ k : Nat, k ≤ M ∧ i = .int .i64 k ∧ DueAt wr w2.heap.size k (S d ks k) (cnt (S d ks k) (U d M)) ∧ Below w2.heap.size w2 wr) (fun i _ => M - (intOf i).toNat)
  case atStart => exact ⟨0, by omega, rfl, by rw [S_zero, cnt_zero]; exact hD3, hb3⟩
  case round =>
    clear hD3 hb3
    obtain ⟨k, hk, rfl, hD, hb⟩ := hrel
    by_cases hlt : k < M
    · obtain ⟨g0, rfl, hg0, hc0⟩ := HO0'.out.cell (show k < len0 by omega)
      obtain ⟨g1, rfl, hg1, hc1⟩ := HO1.out.cell (show k < len1 by omega)
      have hq := HZ.out k (by omega)
      have hc0r : wr.cell? ⟨g0, k, none⟩ = some (.int .u64 (d k)) := (hb.cell hg0).trans hc0
      have hc1r : wr.cell? ⟨g1, k, none⟩ = some (.int .i64 (ks k)) := (hb.cell hg1).trans hc1
      have HDr : Hid (DueAt wr.drew w2.heap.size k (S d ks k) (cnt (S d ks k) (U d M))) := hD.later (Below.refl _ _).drew
      have i0 : k < len0 := by omega
      have i1 : k < len1 := by omega
      clear hc0 hc1 hD
      go_wp2
      go_region_with (go_at_call 23; refine (zcount w2.heap.size k (S d ks k) (cnt (S d ks k) (U d M)) (d k) (ks k) wr.drew HDr.out (by unfold maxLen; omega) hq).mono ?_; rintro e w4 ⟨rfl, hA⟩)
      all_goals
        have hR := after_step hlt hb hA
        clear hA hc0r hc1r
        go_wp2
        go_roundw
        case rel => exact ⟨k + 1, by omega, by go_num, hR.1, hR.2⟩
        case measure => simp [intOf]; omega
    · obtain rfl : k = M := by omega
      rename World => w4
      have HD4 : Hid (DueAt w4 w2.heap.size k (S d ks k) (cnt (S d ks k) (U d k))) := hD
      have hs4 : w2.heap.size ≤ w4.heap.size := Nat.le_of_lt hD.1
      clear hD
      go_wp2_with fail
      go_loopw [8, 9] (fun nz i wr => ∃ m : Nat, m ≤ k ∧ i = .int .i64 m ∧ nz = .int .i64 (cnt (S d ks k) (U d m) : Nat) ∧ Below w4.heap.size w4 wr) (fun _ i _ => k - (intOf i).toNat)
      case atStart => exact ⟨0, by omega, rfl, rfl, Below.refl _ _⟩
      case round =>
        obtain ⟨i, hi, rfl, rfl, hb5⟩ := hrel
        by_cases hik : i < k
        · obtain ⟨g0, rfl, hg0, hc0⟩ := own_row HO0'.out (show 0 < len0 by omega)
          obtain ⟨g1, rfl, hg1, hc1⟩ := own_row HO1.out (show 0 < len1 by omega)
          have HC0 : Hid (∀ wx, Below w4.heap.size w4 wx → ∀ j, j < k → wx.cell? ⟨g0, j, none⟩ = some (.int .u64 (d j))) := fun wx h j hj => ((h.cell (Nat.lt_of_lt_of_le hg0 hs4)).trans (hb.cell hg0)).trans (hc0 j (by omega))
          have HC1 : Hid (∀ wx, Below w4.heap.size w4 wx → ∀ j, j < k → wx.cell? ⟨g1, j, none⟩ = some (.int .i64 (ks j))) := fun wx h j hj => ((h.cell (Nat.lt_of_lt_of_le hg1 hs4)).trans (hb.cell hg1)).trans (hc1 j (by omega))
          have hq := HZ.out i (by omega)
          clear hc0 hc1
          go_wp2_with fail
          go_loopw [10, 11] (fun fb j wr => ∃ m : Nat, m ≤ i ∧ j = .int .i64 m ∧ fb = .bool true ∧ Hid (∀ x, x < m → d x ≠ d i) ∧ Below w4.heap.size w4 wr) (fun _ j _ => i - (intOf j).toNat)
          case atStart => exact ⟨0, by omega, rfl, rfl, fun x hx => by omega, hb5⟩
          case round =>
            obtain ⟨j, hj, rfl, rfl, Hno, hb6⟩ := hrel
            clear hb5
            by_cases hji : j < i
            · have hcj := HC0.out _ hb6 j (by omega)
              have hci := HC0.out _ hb6 i hik
              have jl : (j : Int) < len0 := by omega
              have il : (i : Int) < len0 := by omega
              by_cases heq : d j = d i
              · have hbq : (d j == d i) = true := by simp [heq]
                have Heq : Hid (d j = d i) := heq
                clear heq
                have HF : Hid (firstB d i = false) := decide_eq_false (fun h => h j hji Heq.out)
                go_wp2_with fail
                go_quiet (fail)
                go_wp2_with fail
                clear hcj hci hbq jl il
                go_loopw [12, 13] (fun sm j wr => ∃ m : Nat, m ≤ k ∧ j = .int .i64 m ∧ sm = .int .i64 (S d ks m (d i)) ∧ Below w4.heap.size w4 wr) (fun _ j _ => k - (intOf j).toNat)
                case atStart => exact ⟨0, by omega, rfl, rfl, below_draws hb6 _⟩
                case round =>
                  obtain ⟨l, hl, rfl, rfl, hb7⟩ := hrel
                  clear hb6
                  by_cases hlk : l < k
                  · have hcl := HC0.out _ hb7 l hlk
                    have hci := HC0.out _ hb7 i hik
                    have hkl := HC1.out _ hb7 l hlk
                    have jl : (l : Int) < len0 := by omega
                    have il : (i : Int) < len0 := by omega
                    have jl1 : (l : Int) < len1 := by omega
                    by_cases heq : d l = d i
                    · have hbq : (d l == d i) = true := by simp [heq]
                      have HS : Hid (S d ks (l + 1) (d i) = wrap64 (S d ks l (d i) + ks l)) := S_yes d ks l heq
                      clear heq
                      go_wp2_with fail
                      go_quiet (fail)
                      go_wp2_with fail
                      go_roundw
                      case rel => exact ⟨l + 1, by omega, by go_num, by rw [HS.out], below_draws hb7 _⟩
                      case measure => simp [intOf]; omega
                    · have hbq : (d l == d i) = false := by simp [heq]
                      have HS : Hid (S d ks (l + 1) (d i) = S d ks l (d i)) := S_no d ks l heq
                      clear heq
                      go_wp2_with fail
                      go_quiet (fail)
                      go_wp2_with fail
                      go_roundw
                      case rel => exact ⟨l + 1, by omega, by go_num, by rw [HS.out], below_draws hb7 _⟩
                      case measure => simp [intOf]; omega
                  · obtain rfl : l = k := by omega
                    have hci := HC0.out _ hb7 i hik
                    have il : (i : Int) < len0 := by omega
                    have hnz := nz_le d (S d ks l) i
                    go_wp2_with fail
                    refine (entry_any w2.heap.size l (S d ks l) (cnt (S d ks l) (U d l)) (d i) _ (HD4.out.later hb7) hq).mono ?_
                    rintro e w5 ⟨rfl, rfl⟩
                    by_cases hz : S d ks l (d i) = 0
                    · have hz1 : (S d ks l (d i) == 0) = true := by simp [hz]
                      have hz2 : (S d ks l (d i) != 0) = false := by simp [hz]
                      have HN : Hid (cnt (S d ks l) (U d (i + 1)) = cnt (S d ks l) (U d i)) := nz_nought d (S d ks l) i hz
                      clear hz
                      go_wp2_with fail
                      go_roundw
                      case rel => exact ⟨i + 1, by omega, by go_num, by rw [HN.out], hb7⟩
                      case measure => simp [intOf]; omega
                    · have hz1 : (S d ks l (d i) == 0) = false := by simp [hz]
                      have hz2 : (S d ks l (d i) != 0) = true := by simp [hz]
                      have HN : Hid (cnt (S d ks l) (U d (i + 1)) = cnt (S d ks l) (U d i)) := nz_later d (S d ks l) i HF.out
                      clear hz
                      go_wp2_with fail
                      go_roundw
                      case rel => exact ⟨i + 1, by omega, by go_num, by rw [HN.out], hb7⟩
                      case measure => simp [intOf]; omega
              · have hbq : (d j == d i) = false := by simp [heq]
                have Heq : Hid (d j ≠ d i) := heq
                clear heq
                go_wp2_with fail
                go_quiet (fail)
                go_wp2_with fail
                go_roundw
                case rel => exact ⟨j + 1, by omega, by go_num, rfl, fun x hx => (by rcases Nat.lt_succ_iff_lt_or_eq.1 hx with h | rfl; exact Hno.out x h; exact Heq.out), below_draws hb6 _⟩
                case measure => simp [intOf]; omega
            · have HF : Hid (firstB d i = true) := decide_eq_true (fun x hx => Hno.out x (by omega))
              go_wp2_with fail
              go_loopw [12, 13] (fun sm j wr => ∃ m : Nat, m ≤ k ∧ j = .int .i64 m ∧ sm = .int .i64 (S d ks m (d i)) ∧ Below w4.heap.size w4 wr) (fun _ j _ => k - (intOf j).toNat)
              case atStart => exact ⟨0, by omega, rfl, rfl, hb6⟩
              case round =>
                obtain ⟨l, hl, rfl, rfl, hb7⟩ := hrel
                clear hb6
                by_cases hlk : l < k
                · have hcl := HC0.out _ hb7 l hlk
                  have hci := HC0.out _ hb7 i hik
                  have hkl := HC1.out _ hb7 l hlk
                  have jl : (l : Int) < len0 := by omega
                  have il : (i : Int) < len0 := by omega
                  have jl1 : (l : Int) < len1 := by omega
                  by_cases heq : d l = d i
                  · have hbq : (d l == d i) = true := by simp [heq]
                    have HS : Hid (S d ks (l + 1) (d i) = wrap64 (S d ks l (d i) + ks l)) := S_yes d ks l heq
                    clear heq
                    go_wp2_with fail
                    go_quiet (fail)
                    go_wp2_with fail
                    go_roundw
                    case rel => exact ⟨l + 1, by omega, by go_num, by rw [HS.out], below_draws hb7 _⟩
                    case measure => simp [intOf]; omega
                  · have hbq : (d l == d i) = false := by simp [heq]
                    have HS : Hid (S d ks (l + 1) (d i) = S d ks l (d i)) := S_no d ks l heq
                    clear heq
                    go_wp2_with fail
                    go_quiet (fail)
                    go_wp2_with fail
                    go_roundw
                    case rel => exact ⟨l + 1, by omega, by go_num, by rw [HS.out], below_draws hb7 _⟩
                    case measure => simp [intOf]; omega
                · obtain rfl : l = k := by omega
                  have hci := HC0.out _ hb7 i hik
                  have il : (i : Int) < len0 := by omega
                  have hnz := nz_le d (S d ks l) i
                  go_wp2_with fail
                  refine (entry_any w2.heap.size l (S d ks l) (cnt (S d ks l) (U d l)) (d i) _ (HD4.out.later hb7) hq).mono ?_
                  rintro e w5 ⟨rfl, rfl⟩
                  by_cases hz : S d ks l (d i) = 0
                  · have hz1 : (S d ks l (d i) == 0) = true := by simp [hz]
                    have hz2 : (S d ks l (d i) != 0) = false := by simp [hz]
                    have HN : Hid (cnt (S d ks l) (U d (i + 1)) = cnt (S d ks l) (U d i)) := nz_nought d (S d ks l) i hz
                    clear hz
                    go_wp2_with fail
                    go_roundw
                    case rel => exact ⟨i + 1, by omega, by go_num, by rw [HN.out], hb7⟩
                    case measure => simp [intOf]; omega
                  · have hz1 : (S d ks l (d i) == 0) = false := by simp [hz]
                    have hz2 : (S d ks l (d i) != 0) = true := by simp [hz]
                    have HN : Hid (cnt (S d ks l) (U d (i + 1)) = cnt (S d ks l) (U d i) + 1) := nz_first d (S d ks l) i HF.out hz
                    clear hz
                    go_wp2_with fail
                    go_roundw
                    case rel => exact ⟨i + 1, by omega, by go_num, by rw [HN.out]; go_num, hb7⟩
                    case measure => simp [intOf]; omega
        · obtain rfl : i = k := by omega
          go_wp2_with fail
          refine (len_any w2.heap.size i (S d ks i) (cnt (S d ks i) (U d i)) _ (HD4.out.later hb5)).mono ?_
          rintro e w5 ⟨rfl, rfl⟩
          go_wp2_with fail
          go_ret
          exact ⟨by simp, (hbw2.trans (hb.mono hw2)).trans (hb5.mono (Nat.le_trans hw2 hs4))⟩
end Due
end Go.Proofs.Qxb6000923a
