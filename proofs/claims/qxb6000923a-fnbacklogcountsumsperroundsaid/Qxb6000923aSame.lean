import Derived.Test.Qxb6000923aNewHeld
import Derived.LaidEqlPtr
namespace Go.Proofs.Qxb6000923a
open Go.RowKit Go.Maps

theorem IsRow.len_le {k : IntKind} {w : World} {a : Option Addr} {len cap : Nat} {zs : List Int} (h : IsRow k w a len cap zs) : len ≤ maxLen ∧ ∀ i, i < len → (Lit.int k (zs.getD i 0)).wf = true := by
  rcases h with ⟨rfl, rfl, rfl, rfl⟩ | ⟨x, rfl, hlc, hm, hz, _, hw⟩
  · exact ⟨by unfold maxLen; omega, fun i hi => by omega⟩
  · refine ⟨by omega, fun i hi => hw _ ?_⟩
    have hi' : i < zs.length := by omega
    rw [List.getD_eq_getElem?_getD, List.getElem?_eq_getElem hi', Option.getD_some]
    exact List.getElem_mem hi'

theorem IsRow.later {k : IntKind} {w w' : World} {a : Option Addr} {len cap : Nat} {zs : List Int} (h : IsRow k w a len cap zs) (hb : Below w.heap.size w w') : IsRow k w' a len cap zs := by
  rcases h with h | ⟨x, rfl, hlc, hm, hz, hc, hw⟩
  · exact .inl h
  · exact .inr ⟨x, rfl, hlc, hm, hz, fun i hi => cell_later hb (hc i hi), hw⟩

theorem Own.later {k : IntKind} {t : TypeId} {w w' : World} {base : Nat} {a : Option Addr} {len : Nat} {z : Nat → Int} (h : Own k t w base a len z) (hb : Below w.heap.size w w') : Own k t w' base a len z := by
  rcases h with h | ⟨g, rfl, hg, hr⟩
  · exact .inl h
  · exact .inr ⟨g, rfl, hg, hr.of_block (hb.block g hr.lt)⟩

theorem Own.cell {k : IntKind} {t : TypeId} {w : World} {base : Nat} {a : Option Addr} {len : Nat} {z : Nat → Int} (h : Own k t w base a len z) {i : Nat} (hi : i < len) :
    ∃ g, a = some ⟨g, 0, none⟩ ∧ g < w.heap.size ∧ w.cell? ⟨g, i, none⟩ = some (.int k (z i)) := by
  rcases h with ⟨_, h⟩ | ⟨g, rfl, hg, hr⟩
  · omega
  · exact ⟨g, rfl, hr.lt, hr.cell hi⟩

theorem below_of_grown {w w' : World} {B : Nat} (h : w.grownBy w' (some B)) (hB : B ≤ w.heap.size) : Below B w w' :=
  (Below.refl B w).grown h hB (fun k e => by cases e; exact Nat.le_refl _)

namespace Held

theorem info52 : (Try.prog.info? 52).isSome = true := by kernel_rfl
/-- 'p != p' on pointers to blocks: no -/
theorem neq_same (p : Option Addr) (w : World) : (binOp .neq 31 (.pointer p) (.pointer p)).run Try.prog w = .ok (.bool false) w := by
  obtain ⟨j, hj⟩ := Option.isSome_iff_exists.1 info52
  have h : ∀ d : Nat, (Op.equalIn (d + 1) 31 (.pointer p) (.pointer p)).run Try.prog w = .ok true w := fun d => by
    cases p with
    | none => simp [Op.equalIn, run_underlying Try.underlying31]
    | some a => simp [Op.equalIn, run_underlying Try.underlying31, sizeOf, typeInfo, hj, run_sameAddr_same]
  simp only [binOp]
  simp [Op.equal, Op.maxDepth, h 9999]

theorem new_any (base : Nat) (a : Option Addr) (len : Nat) (z : Nat → Int) (w : World) (hl : len ≤ 4096) (ho : Own .u64 30 w base a len z) (hz : ∀ i, i < len → Wf (z i)) :
    Calls Try.prog 13 #[.slice a len len] w fun e w' => ∃ m g, e = .returned (.pointer (some ⟨w.heap.size, 0, none⟩)) ∧
      Cache w' w.heap.size m g ∧ MapAt w' m len g ∧ m ≠ some w.heap.size ∧ Tags w' w.heap.size z len g ∧ Below w.heap.size w w' ∧ w.heap.size < w'.heap.size := by
  by_cases h0 : 0 < len
  · rcases ho with ⟨_, h⟩ | ⟨gk, rfl, _, hr⟩
    · omega
    · refine (new_some gk len z w hl h0 hr hz).mono ?_
      rintro e w' ⟨g, rfl, hf, hm, ht, hb⟩
      exact ⟨_, g, rfl, fresh_cache hf g, hm, by simp, ht, hb, (Array.getElem?_eq_some_iff.1 hf).1⟩
  · obtain rfl : len = 0 := by omega
    refine (new_nil a w).mono ?_
    rintro e w' ⟨rfl, hf, hb⟩
    exact ⟨none, fun _ => none, rfl, fresh_cache hf _, .inl ⟨rfl, fun _ _ => rfl⟩, by simp, fun q _ => ⟨by simp [hasKey], fun x hx => by cases hx⟩, hb, (Array.getElem?_eq_some_iff.1 hf).1⟩

set_option maxHeartbeats 400000 in
theorem bytes18 (a0 a1 : Option Addr) (len0 cap0 len1 cap1 : Nat) (w : World) (h0 : len0 ≤ maxLen) (h1 : len1 ≤ maxLen) :
    Calls Try.prog 18 #[.slice a0 len0 cap0, .slice a1 len1 cap1] w fun e w' => ∃ b : Bool, e = .returned (.bool b) ∧ w = w' := by
  unfold maxLen at h0 h1
  go_enter Try.func18, Try.ntmps18
  go_wp2
  all_goals
    go_ret
    exact ⟨_, rfl, rfl⟩

set_option maxHeartbeats 400000 in
theorem bytes11 (a0 a1 : Option Addr) (len0 cap0 len1 cap1 : Nat) (w : World) (h0 : len0 ≤ maxLen) (h1 : len1 ≤ maxLen) :
    Calls Try.prog 11 #[.slice a0 len0 cap0, .slice a1 len1 cap1] w fun e w' => ∃ b : Bool, e = .returned (.bool b) ∧ w = w' := by
  unfold maxLen at h0 h1
  go_enter Try.func11, Try.ntmps11
  go_wp2
  all_goals
    go_ret
    exact ⟨_, rfl, rfl⟩

set_option maxHeartbeats 1000000 in
theorem same_walk (a0 : Option Addr) (len0 cap0 : Nat) (z0 : List Int) (a1 : Option Addr) (len1 cap1 : Nat) (z1 : List Int) (w : World) (w0 : IsRow .u64 w a0 len0 cap0 z0) (w1 : IsRow .u64 w a1 len1 cap1 z1) :
    Calls Try.prog 6 #[.slice a0 len0 cap0, .slice a1 len1 cap1] w fun e w' => e = .returned (.bool true) ∧ Below w.heap.size w w' := by
  obtain ⟨hm0, hz0⟩ := w0.len_le
  obtain ⟨hm1, hz1⟩ := w1.len_le
  have HZ0 : Hid (∀ i, i < len0 → Wf (z0.getD i 0)) := hz0
  have HZ1 : Hid (∀ i, i < len1 → Wf (z1.getD i 0)) := hz1
  have W0 : Hid (IsRow .u64 w a0 len0 cap0 z0) := w0
  have W1 : Hid (IsRow .u64 w a1 len1 cap1 z1) := w1
  clear hz0 hz1 w0 w1
  go_enter Try.func6, Try.ntmps6
  go_wp2_with fail
  refine (bytes18 a0 a1 len0 cap0 len1 cap1 w hm0 hm1).mono ?_
  rintro e w' ⟨b, rfl, rfl⟩
  unfold maxLen at hm0 hm1
  cases b
  · go_wp2
    go_ret
    exact ⟨rfl, Below.refl _ _⟩
  by_cases hl0 : 4096 < len0
  · go_wp2
    go_ret
    exact ⟨rfl, Below.refl _ _⟩
  by_cases hl1 : 4096 < len1
  · go_wp2
    go_ret
    exact ⟨rfl, Below.refl _ _⟩
  have hd0 : decide (4096 < (len0 : Int)) = false := by simp; omega
  have hd1 : decide (4096 < (len1 : Int)) = false := by simp; omega
  have hn0 : len0 ≤ 4096 := by omega
  have hn1 : len1 ≤ 4096 := by omega
  clear hm0 hm1 hl0 hl1
  go_wp2_with fail
  refine (Clone.u64_any a0 len0 cap0 z0 w W0.out hn0).mono ?_
  rintro e w1 ⟨a0', rfl, ho0, hb1⟩
  have HO0 : Hid (Own .u64 30 w1 w.heap.size a0' len0 (fun i => z0.getD i 0)) := ho0
  clear ho0
  go_wp2_with fail
  refine (Clone.u64_any a1 len1 cap1 z1 w1 (W1.out.later hb1) hn1).mono ?_
  rintro e w2 ⟨a1', rfl, ho1, hb2⟩
  have HO1 : Hid (Own .u64 30 w2 w1.heap.size a1' len1 (fun i => z1.getD i 0)) := ho1
  clear ho1
  go_wp2_with fail
  refine (new_any w.heap.size a0' len0 (fun i => z0.getD i 0) w2 hn0 (HO0.out.later hb2) HZ0.out).mono ?_
  rintro e w3 ⟨m, g, rfl, hC, hM, hmB, hT, hb3, hs3⟩
  have hw2 : w.heap.size ≤ w2.heap.size := Nat.le_trans hb1.size hb2.size
  have hbw3 : Below w.heap.size w w3 := (hb1.trans (hb2.mono hb1.size)).trans (hb3.mono hw2)
  clear hT W0 W1 HZ0 HO0
  have HM : Hid (MapAt w3 m len0 g) := hM
  have HmB : Hid (m ≠ some w2.heap.size) := hmB
  clear hM hmB
  go_wp2_with fail
  go_loopw [6] (fun i wr => ∃ k : Nat, k ≤ len1 ∧ i = .int .i64 k ∧ Cache wr w2.heap.size m g ∧ w3.grownBy wr (some w2.heap.size)) (fun i _ => len1 - (intOf i).toNat)
  case atStart => exact ⟨0, by omega, rfl, hC, World.grownBy.refl _ _⟩
  case round =>
    obtain ⟨k, hk, rfl, hCr, hgr⟩ := hrel
    by_cases hlt : k < len1
    · obtain ⟨gs, rfl, hgs, hcs2⟩ := HO1.out.cell hlt
      have hwf := HZ1.out k hlt
      replace hcs2 : w2.cell? ⟨gs, k, none⟩ = some (.int .u64 (z1.getD k 0)) := hcs2
      generalize z1.getD k 0 = q at hwf hcs2
      have HB : Hid (∀ wx, w3.grownBy wx (some w2.heap.size) → wx.cell? ⟨gs, k, none⟩ = some (.int .u64 q)) := fun wx h => ((hb3.trans (below_of_grown h (by omega))).cell hgs).trans hcs2
      have HL : Hid (∀ wx, w3.grownBy wx (some w2.heap.size) → (Instr.lookup 47 (.map m) (.int .u64 q) false).run Try.prog wx = .ok (.pointer (g q)) wx) := fun wx h => (HM.out.kept h HmB.out).look hwf
      clear hcs2
      have hcr := HB.out wr hgr
      go_wp2_with fail
      refine (stored w2.heap.size m q (g q) wr hCr.c6 (HL.out wr hgr)).mono ?_
      rintro e w' ⟨rfl, rfl⟩
      go_wp2_with fail
      refine (zblock w2.heap.size m g q wr hCr (HL.out wr hgr)).mono ?_
      rintro e w4 ⟨rfl, hC4, hg4⟩
      have hgr4 := hgr.trans hg4
      have hc4 := HB.out w4 hgr4
      clear hcr
      go_wp2_with fail
      refine (zblock w2.heap.size m g q w4 hC4 (HL.out w4 hgr4)).mono ?_
      rintro e w5 ⟨rfl, hC5, hg5⟩
      have hgr5 := hgr4.trans hg5
      clear hc4
      have hne := neq_same (g q)
      go_wp2_with fail
      go_roundw
      case rel => exact ⟨k + 1, by omega, by go_num, hC5, hgr5⟩
      case measure => simp [intOf]; omega
    · clear hC
      go_wp2_with fail
      go_loopw [10] (fun i wx => ∃ k : Nat, k ≤ len1 ∧ i = .int .i64 ((k : Int) - 1) ∧ Cache wx w2.heap.size m g ∧ w3.grownBy wx (some w2.heap.size)) (fun i _ => (intOf i + 1).toNat)
      case atStart => exact ⟨len1, by omega, by go_num, hCr, hgr⟩
      case round =>
        clear hCr hgr hlt hk
        obtain ⟨k2, hk, rfl, hCr, hgr⟩ := hrel
        by_cases hlt : 0 < k2
        · obtain ⟨k, rfl⟩ : ∃ k, k2 = k + 1 := ⟨k2 - 1, by omega⟩
          have hlt' : k < len1 := by omega
          have hk1 : ((k + 1 : Nat) : Int) - 1 = k := by omega
          rw [hk1]
          clear hk1 hlt
          obtain ⟨gs, rfl, hgs, hcs2⟩ := HO1.out.cell hlt'
          have hwf := HZ1.out k hlt'
          replace hcs2 : w2.cell? ⟨gs, k, none⟩ = some (.int .u64 (z1.getD k 0)) := hcs2
          generalize z1.getD k 0 = q at hwf hcs2
          have HB : Hid (∀ wx, w3.grownBy wx (some w2.heap.size) → wx.cell? ⟨gs, k, none⟩ = some (.int .u64 q)) := fun wx h => ((hb3.trans (below_of_grown h (by omega))).cell hgs).trans hcs2
          have HL : Hid (∀ wx, w3.grownBy wx (some w2.heap.size) → (Instr.lookup 47 (.map m) (.int .u64 q) false).run Try.prog wx = .ok (.pointer (g q)) wx) := fun wx h => (HM.out.kept h HmB.out).look hwf
          clear hcs2
          have hcr := HB.out _ hgr
          go_wp2_with fail
          refine (stored w2.heap.size m q (g q) _ hCr.c6 (HL.out _ hgr)).mono ?_
          rintro e w' ⟨rfl, rfl⟩
          go_wp2_with fail
          refine (zblock w2.heap.size m g q _ hCr (HL.out _ hgr)).mono ?_
          rintro e w4 ⟨rfl, hC4, hg4⟩
          have hgr4 := hgr.trans hg4
          have hc4 := HB.out w4 hgr4
          clear hcr
          go_wp2_with fail
          refine (zblock w2.heap.size m g q w4 hC4 (HL.out w4 hgr4)).mono ?_
          rintro e w5 ⟨rfl, hC5, hg5⟩
          have hgr5 := hgr4.trans hg5
          clear hc4
          have hne := neq_same (g q)
          go_wp2_with fail
          go_roundw
          case rel => exact ⟨k, by omega, rfl, hC5, hgr5⟩
          case measure => simp [intOf]
        · go_wp2_with fail
          go_ret
          exact ⟨rfl, hbw3.trans ((below_of_grown hgr (by omega)).mono hw2)⟩
end Held
end Go.Proofs.Qxb6000923a
