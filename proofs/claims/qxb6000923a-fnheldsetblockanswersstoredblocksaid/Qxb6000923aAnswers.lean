import Derived.Test.Qxb6000923aSame
namespace Go.Proofs.Qxb6000923a
open Go.RowKit Go.Maps
namespace Held

theorem zblock_p (B : Nat) (m : Option Nat) (g : Int → Option Addr) (q : Int) (p : Option Addr) (w : World) (h : Cache w B m g) (hp : g q = p)
    (hl : (Instr.lookup 47 (.map m) (.int .u64 q) false).run Try.prog w = .ok (.pointer p) w) :
    Calls Try.prog 15 #[.pointer (some ⟨B, 0, none⟩), .int .u64 q] w fun e w' => e = .returned (.pointer p) ∧ Cache w' B m g ∧ w.grownBy w' (some B) := by
  subst hp
  exact zblock B m g q w h hl

theorem grown_cell {w w' : World} {B : Nat} (h : w.grownBy w' (some B)) {b : Nat} (hb : b < w.heap.size) (hne : b ≠ B) {v : Value} (hc : w.cell? ⟨b, 0, none⟩ = some v) : w'.cell? ⟨b, 0, none⟩ = some v :=
  (World.cell?_of_block (w := w) (a := ⟨b, 0, none⟩) (h.block b hb (by intro e; cases e; exact hne rfl))).trans hc

set_option maxHeartbeats 1000000 in
theorem answers_walk (a0 : Option Addr) (len0 cap0 : Nat) (z0 : List Int) (a1 : Option Addr) (len1 cap1 : Nat) (z1 : List Int) (w : World) (w0 : IsRow .u64 w a0 len0 cap0 z0) (w1 : IsRow .u64 w a1 len1 cap1 z1) :
    Calls Try.prog 5 #[.slice a0 len0 cap0, .slice a1 len1 cap1] w fun e w' => e = .returned (.bool true) ∧ Below w.heap.size w w' := by
  obtain ⟨hm0, hz0⟩ := w0.len_le
  obtain ⟨hm1, hz1⟩ := w1.len_le
  have HZ0 : Hid (∀ i, i < len0 → Wf (z0.getD i 0)) := hz0
  have HZ1 : Hid (∀ i, i < len1 → Wf (z1.getD i 0)) := hz1
  have W0 : Hid (IsRow .u64 w a0 len0 cap0 z0) := w0
  have W1 : Hid (IsRow .u64 w a1 len1 cap1 z1) := w1
  clear hz0 hz1 w0 w1
  go_enter Try.func5, Try.ntmps5
  go_wp2_with fail
  refine (bytes11 a0 a1 len0 cap0 len1 cap1 w hm0 hm1).mono ?_
  rintro e w' ⟨b, rfl, rfl⟩
  unfold maxLen at hm0 hm1
  cases b
  · go_wp2
    go_ret
    exact ⟨rfl, Below.refl _ _⟩
  by_cases hl0 : 4096 < len0
  · go_wp2
    go_ret
    exact ⟨rfl, Below.refl _ _⟩
  by_cases hl1 : 4096 < len1
  · go_wp2
    go_ret
    exact ⟨rfl, Below.refl _ _⟩
  have hd0 : decide (4096 < (len0 : Int)) = false := by simp; omega
  have hd1 : decide (4096 < (len1 : Int)) = false := by simp; omega
  have hn0 : len0 ≤ 4096 := by omega
  have hn1 : len1 ≤ 4096 := by omega
  clear hm0 hm1 hl0 hl1
  go_wp2_with fail
  refine (Clone.u64_any a0 len0 cap0 z0 w W0.out hn0).mono ?_
  rintro e w1 ⟨a0', rfl, ho0, hb1⟩
  have HO0 : Hid (Own .u64 30 w1 w.heap.size a0' len0 (fun i => z0.getD i 0)) := ho0
  clear ho0
  go_wp2_with fail
  refine (Clone.u64_any a1 len1 cap1 z1 w1 (W1.out.later hb1) hn1).mono ?_
  rintro e w2 ⟨a1', rfl, ho1, hb2⟩
  have HO1 : Hid (Own .u64 30 w2 w1.heap.size a1' len1 (fun i => z1.getD i 0)) := ho1
  clear ho1
  go_wp2_with fail
  refine (new_any w.heap.size a0' len0 (fun i => z0.getD i 0) w2 hn0 (HO0.out.later hb2) HZ0.out).mono ?_
  rintro e w3 ⟨m, g, rfl, hC, hM, hmB, hT, hb3, hs3⟩
  have hw2 : w.heap.size ≤ w2.heap.size := Nat.le_trans hb1.size hb2.size
  have hbw3 : Below w.heap.size w w3 := (hb1.trans (hb2.mono hb1.size)).trans (hb3.mono hw2)
  have HT : Hid (Tags w3 w2.heap.size (fun i => z0.getD i 0) len0 g) := hT
  clear hT W0 W1 HZ0
  have HM : Hid (MapAt w3 m len0 g) := hM
  have HmB : Hid (m ≠ some w2.heap.size) := hmB
  clear hM hmB
  go_wp2_with fail
  go_loopw [6] (fun i wr => ∃ k : Nat, k ≤ len1 ∧ i = .int .i64 k ∧ Cache wr w2.heap.size m g ∧ w3.grownBy wr (some w2.heap.size)) (fun i _ => len1 - (intOf i).toNat)
  case atStart => exact ⟨0, by omega, rfl, hC, World.grownBy.refl _ _⟩
  case round =>
    clear hC
    obtain ⟨k, hk, rfl, hCr, hgr⟩ := hrel
    by_cases hlt : k < len1
    · obtain ⟨gs, rfl, hgs, hcs2⟩ := HO1.out.cell hlt
      have hwf := HZ1.out k hlt
      replace hcs2 : w2.cell? ⟨gs, k, none⟩ = some (.int .u64 (z1.getD k 0)) := hcs2
      generalize z1.getD k 0 = q at hwf hcs2
      have hcr : wr.cell? ⟨gs, k, none⟩ = some (.int .u64 q) := ((hb3.trans (below_of_grown hgr (by omega))).cell hgs).trans hcs2
      have HL : Hid ((Instr.lookup 47 (.map m) (.int .u64 q) false).run Try.prog wr = .ok (.pointer (g q)) wr) := (HM.out.kept hgr HmB.out).look hwf
      obtain ⟨t1, t2⟩ := HT.out q hwf
      have HO : Hid (∀ wx, w3.grownBy wx (some w2.heap.size) → Own .u64 30 wx w.heap.size a0' len0 (fun i => z0.getD i 0)) := fun wx h =>
        HO0.out.later ((hb2.trans (hb3.mono hb2.size)).trans ((below_of_grown h (by omega)).mono hb2.size))
      clear hcs2
      clear HM HmB HT HO1 HZ1 hwf
      rcases hp : g q with _ | x
      · rw [hp] at t1 HL
        have Hp := (show Hid (g q = _) from hp)
        have HK : Hid (hasKey (fun i => z0.getD i 0) len0 q = false) := t1.symm
        clear t1 t2 hp
        go_wp2_with fail
        refine (stored w2.heap.size m q none wr hCr.c6 HL.out).mono ?_
        rintro e w' ⟨rfl, rfl⟩
        go_wp2_with fail
        refine (zblock_p w2.heap.size m g q none wr hCr Hp.out HL.out).mono ?_
        rintro e w4 ⟨rfl, hC4, hg4⟩
        have hgr4 := hgr.trans hg4
        have hne := neq_same none
        clear HL hcr
        go_wp2_with fail
        refine (holds w.heap.size a0' len0 (fun i => z0.getD i 0) q w4 (HO.out w4 hgr4) hn0).mono ?_
        rintro e w' ⟨rfl, rfl⟩
        rw [HK.out]
        go_wp2_with fail
        go_roundw
        case rel => exact ⟨k + 1, by omega, by go_num, hC4, hgr4⟩
        case measure => simp [intOf]; omega
      · rw [hp] at t1 HL
        have Hp := (show Hid (g q = _) from hp)
        have HK : Hid (hasKey (fun i => z0.getD i 0) len0 q = true) := t1.symm
        obtain ⟨b, rfl, hbB, hbs, hbc⟩ := t2 x hp
        have HC : Hid (w3.cell? ⟨b, 0, none⟩ = some (.int .u64 q)) := hbc
        clear t1 t2 hp hbc
        go_wp2_with fail
        refine (stored w2.heap.size m q (some ⟨b, 0, none⟩) wr hCr.c6 HL.out).mono ?_
        rintro e w' ⟨rfl, rfl⟩
        go_wp2_with fail
        refine (zblock_p w2.heap.size m g q (some ⟨b, 0, none⟩) wr hCr Hp.out HL.out).mono ?_
        rintro e w4 ⟨rfl, hC4, hg4⟩
        have hgr4 := hgr.trans hg4
        have hne := neq_same (some ⟨b, 0, none⟩)
        clear HL hcr
        go_wp2_with fail
        refine (holds w.heap.size a0' len0 (fun i => z0.getD i 0) q w4 (HO.out w4 hgr4) hn0).mono ?_
        rintro e w' ⟨rfl, rfl⟩
        rw [HK.out]
        go_wp2_with fail
        refine (tag b q w4 (grown_cell hgr4 hbs hbB HC.out)).mono ?_
        rintro e w' ⟨rfl, rfl⟩
        go_wp2_with fail
        go_roundw
        case rel => exact ⟨k + 1, by omega, by go_num, hC4, hgr4⟩
        case measure => simp [intOf]; omega
    · go_wp2_with fail
      go_ret
      exact ⟨rfl, hbw3.trans ((below_of_grown hgr (by omega)).mono hw2)⟩
end Held
end Go.Proofs.Qxb6000923a
