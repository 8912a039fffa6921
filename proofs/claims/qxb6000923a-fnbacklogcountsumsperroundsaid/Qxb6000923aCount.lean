import Derived.Test.Qxb6000923aDue
namespace Go.Proofs.Qxb6000923a.Due
open Go.RowKit Go.Maps

theorem eqNil (w : World) (r : Option Nat) : (binOp .eql 54 (.map r) (.map none)).run Try.prog w = .ok (.bool r.isNone) w := run_eql_map_nil w _ _ _ r Try.underlying54

theorem cell_kept {w w' : World} {B bm : Nat} (hg : w.grownBy w' (some bm)) (hB : B < w.heap.size) (hne : B ≠ bm) (i : Nat) : w'.cell? ⟨B, i, none⟩ = w.cell? ⟨B, i, none⟩ :=
  World.cell?_of_block (w := w) (a := ⟨B, i, none⟩) (hg.block B hB (by intro e; cases e; exact hne rfl))
theorem frozen_kept {w w' : World} {B bm : Nat} (hg : w.grownBy w' (some bm)) (hB : B < w.heap.size) (hne : B ≠ bm) (i : Nat) : w'.frozen? ⟨B, i, none⟩ = w.frozen? ⟨B, i, none⟩ :=
  World.frozen?_of_block (w := w) (a := ⟨B, i, none⟩) (hg.block B hB (by intro e; cases e; exact hne rfl))

/-- what one count leaves -/
def After (w w' : World) (B N : Nat) (f : Int → Int) (c : Nat) (q k : Int) : Prop :=
  Below B w w' ∧ ∃ c', DueAt w' B (N + 1) (upd f q (wrap64 (f q + k))) c' ∧ c' + one (f q) = c + one (wrap64 (f q + k))

/-- the reads and writes of one count, behind the test on nil, and what they leave -/
def Steps (w wB wC : World) (B bm N : Nat) (f : Int → Int) (c : Nat) (q k : Int) : Prop :=
  (Instr.lookup 54 (.map (some bm)) (.int .u64 q) false).run Try.prog w = .ok (.int .i64 (f q)) w ∧
  (Instr.mapUpdate 54 (.map (some bm)) (.int .u64 q) (.int .i64 (wrap64 (f q + k)))).run Try.prog w = .ok () wB ∧
  (Instr.lookup 54 (.map (some bm)) (.int .u64 q) false).run Try.prog wB = .ok (.int .i64 (wrap64 (f q + k))) wB ∧
  wB.cell? ⟨B, 1, none⟩ = some (.map (some bm)) ∧
  (wrap64 (f q + k) = 0 ∧ (Builtin.delete_ #[54, 30] 0 #[.map (some bm), .int .u64 q]).run Try.prog wB = .ok (.tuple #[]) wC ∨ wrap64 (f q + k) ≠ 0 ∧ wC = wB) ∧
  After w wC B N f c q k

theorem steps (B bm N : Nat) (f : Int → Int) (c : Nat) (q k : Int) (w : World) (hN : N < maxLen) (hq : Wf q) (hB : B < bm) (hbm : bm < w.heap.size) (hf : w.frozen? ⟨B, 1, none⟩ = false)
    (h1 : w.cell? ⟨B, 1, none⟩ = some (.map (some bm))) (hH : Holds w bm N f c) : ∃ wB wC, Steps w wB wC B bm N f c q k := by
  have hl := hH.look hq
  have key : ∀ {wC : World} {g : Int → Int} {c' : Nat}, w.grownBy wC (some bm) → Holds wC bm (N + 1) g c' → Below B w wC ∧ DueAt wC B (N + 1) g c' := fun hg2 hH' =>
    ⟨(Below.refl B w).grown hg2 (by omega) (fun j e => by cases e; omega), Nat.lt_of_lt_of_le (by omega) hg2.size, (frozen_kept hg2 (by omega) (by omega) 1).trans hf,
      .inr ⟨bm, hB, Nat.lt_of_lt_of_le hbm hg2.size, (cell_kept hg2 (by omega) (by omega) 1).trans h1, hH'⟩⟩
  by_cases h0 : wrap64 (f q + k) = 0
  · obtain ⟨wB, wC, c', hup, hl2, hdel, hg1, hg2, hH', hc⟩ := hH.strike hN hq 0
    refine ⟨wB, wC, hl, by rw [h0]; exact hup, by rw [h0]; exact hl2, (cell_kept hg1 (by omega) (by omega) 1).trans h1, .inl ⟨h0, hdel⟩, (key hg2 hH').1, c', ?_, ?_⟩
    · rw [h0]; exact (key hg2 hH').2
    · rw [h0, hc]; rfl
  · obtain ⟨wB, c', hup, hl2, hg1, hH', hc⟩ := hH.bump hN hq (wf_wrap (f q + k)) h0
    exact ⟨wB, wB, hl, hup, hl2, (cell_kept hg1 (by omega) (by omega) 1).trans h1, .inr ⟨h0, rfl⟩, (key hg1 hH').1, c', (key hg1 hH').2, hc⟩

set_option maxHeartbeats 400000 in
theorem count_some (B bm N : Nat) (f : Int → Int) (c : Nat) (q k : Int) (w wB wC : World) (h1 : w.cell? ⟨B, 1, none⟩ = some (.map (some bm))) (hS : Steps w wB wC B bm N f c q k) :
    Calls Try.prog 30 #[.pointer (some ⟨B, 0, none⟩), .int .u64 q, .int .i64 k] w fun e w' => e = .returned (.tuple #[]) ∧ After w w' B N f c q k := by
  obtain ⟨s1, s2, s3, s4, s5, s6⟩ := hS
  have hA : Hid (After w wC B N f c q k) := s6
  clear s6
  have hen := eqNil
  rcases s5 with ⟨h0, hdel⟩ | ⟨h0, rfl⟩
  · have hb : (wrap64 (f q + k) == 0) = true := by simp [h0]
    clear h0
    go_enter Try.func30, Try.ntmps30
    go_wp2
    go_end0
    exact ⟨rfl, hA.out⟩
  · have hb : (wrap64 (f q + k) == 0) = false := by simp [h0]
    clear h0
    go_enter Try.func30, Try.ntmps30
    go_wp2
    go_end0
    exact ⟨rfl, hA.out⟩

set_option maxHeartbeats 400000 in
theorem count_nil (B N : Nat) (f : Int → Int) (c : Nat) (q k : Int) (w wA wB wC : World) (hB : B < w.heap.size) (h1 : w.cell? ⟨B, 1, none⟩ = some (.map none)) (hf : w.frozen? ⟨B, 1, none⟩ = false)
    (hA : (w.alloc (.map #[] 0)).setCell ⟨B, 1, none⟩ (.map (some w.heap.size)) = wA) (h1A : wA.cell? ⟨B, 1, none⟩ = some (.map (some w.heap.size)))
    (hS : Steps wA wB wC B w.heap.size N f c q k) :
    Calls Try.prog 30 #[.pointer (some ⟨B, 0, none⟩), .int .u64 q, .int .i64 k] w fun e w' => e = .returned (.tuple #[]) ∧ w' = wC := by
  obtain ⟨s1, s2, s3, s4, s5, s6⟩ := hS
  clear s6
  have hen := eqNil
  have hmm := @run_makeMap Try.prog
  have hc1 : (w.alloc (.map #[] 0)).cell? ⟨B, 1, none⟩ = some (.map none) := cell_later ((Below.refl _ _).alloc (Nat.le_refl _) _) h1
  have hf1 : (w.alloc (.map #[] 0)).frozen? ⟨B, 1, none⟩ = false := (((Below.refl _ w).alloc (Nat.le_refl _) (.map #[] 0)).frozen (p := ⟨B, 1, none⟩) hB).trans hf
  rcases s5 with ⟨h0, hdel⟩ | ⟨h0, rfl⟩
  · have hb : (wrap64 (f q + k) == 0) = true := by simp [h0]
    clear h0
    go_enter Try.func30, Try.ntmps30
    go_wp2
    go_end0
    exact ⟨rfl, rfl⟩
  · have hb : (wrap64 (f q + k) == 0) = false := by simp [h0]
    clear h0
    go_enter Try.func30, Try.ntmps30
    go_wp2
    go_end0
    exact ⟨rfl, rfl⟩

theorem count_any (B N : Nat) (f : Int → Int) (c : Nat) (q k : Int) (w : World) (h : DueAt w B N f c) (hN : N < maxLen) (hq : Wf q) :
    Calls Try.prog 30 #[.pointer (some ⟨B, 0, none⟩), .int .u64 q, .int .i64 k] w fun e w' => e = .returned (.tuple #[]) ∧ After w w' B N f c q k := by
  obtain ⟨hB, hf, h⟩ := h
  rcases h with ⟨h1, h2, rfl⟩ | ⟨bm, hb1, hb2, h1, hH⟩
  · have hbl : Below w.heap.size w (w.alloc (.map #[] 0)) := (Below.refl _ _).alloc (Nat.le_refl _) _
    have hc1 : (w.alloc (.map #[] 0)).cell? ⟨B, 1, none⟩ = some (.map none) := cell_later hbl h1
    have hf1 : (w.alloc (.map #[] 0)).frozen? ⟨B, 1, none⟩ = false := (hbl.frozen (p := ⟨B, 1, none⟩) hB).trans hf
    have hx1 : ((w.alloc (.map #[] 0)).setCell ⟨B, 1, none⟩ (.map (some w.heap.size))).cell? ⟨B, 1, none⟩ = some (.map (some w.heap.size)) := by go_simp
    have hx2 : ((w.alloc (.map #[] 0)).setCell ⟨B, 1, none⟩ (.map (some w.heap.size))).frozen? ⟨B, 1, none⟩ = false := by go_simp
    obtain ⟨wA, hA⟩ : ∃ wA, (w.alloc (.map #[] 0)).setCell ⟨B, 1, none⟩ (.map (some w.heap.size)) = wA := ⟨_, rfl⟩
    have hsA : w.heap.size < wA.heap.size := by rw [← hA]; simp [World.setCell]
    have h1A : wA.cell? ⟨B, 1, none⟩ = some (.map (some w.heap.size)) := by rw [← hA]; exact hx1
    have hfA : wA.frozen? ⟨B, 1, none⟩ = false := by rw [← hA]; exact hx2
    have hH : Holds wA w.heap.size N f 0 := by
      refine ⟨.map [], ?_, fun x hx => ⟨?_, ?_⟩, rfl⟩
      · rw [← hA]
        exact ((World.ownsMap_made w Try.prog 30 (plainElem Try.prog 3)).mono (Nat.zero_le _)).setCell (by show w.heap.size ≠ B; omega) _
      · rw [h2 x hx]; rfl
      · rw [h2 x hx]; rfl
    obtain ⟨wB, wC, hS⟩ := steps B w.heap.size N f 0 q k wA hN hq hB hsA hfA h1A hH
    have hAf := hS.2.2.2.2.2
    refine (count_nil B N f 0 q k w wA wB wC hB h1 hf hA h1A hS).mono ?_
    rintro e w' ⟨rfl, rfl⟩
    refine ⟨rfl, ?_, hAf.2⟩
    refine Below.trans ?_ hAf.1
    rw [← hA]
    exact (hbl.mono (Nat.le_of_lt hB)).setCell (p := ⟨B, 1, none⟩) (Nat.le_refl _) _
  · obtain ⟨wB, wC, hS⟩ := steps B bm N f c q k w hN hq hb1 hb2 hf h1 hH
    exact count_some B bm N f c q k w wB wC h1 hS

set_option maxHeartbeats 400000 in
theorem zcount (B N : Nat) (f : Int → Int) (c : Nat) (q k : Int) (w : World) (h : DueAt w B N f c) (hN : N < maxLen) (hq : Wf q) :
    Calls Try.prog 23 #[.pointer (some ⟨B, 0, none⟩), .int .u64 q, .int .i64 k] w fun e w' => e = .returned (.tuple #[]) ∧ After w w' B N f c q k := by
  go_enter Try.func23, Try.ntmps23
  go_wp2_with (go_at_call 30; refine (count_any B N f c q k w h hN hq).mono ?_; rintro e w' ⟨rfl, hA⟩)
  go_end0
  exact ⟨rfl, hA⟩

set_option maxHeartbeats 400000 in
theorem newBacklog (w : World) :
    Calls Try.prog 22 #[] w fun e w' => e = .returned (.pointer (some ⟨w.heap.size, 0, none⟩)) ∧ DueAt w' w.heap.size 0 (fun _ => 0) 0 ∧ Below w.heap.size w w' := by
  go_enter Try.func22, Try.ntmps22
  go_wp2
  go_ret
  refine ⟨rfl, ⟨by simp, ?_, .inl ⟨?_, fun _ _ => rfl, rfl⟩⟩, (Below.refl _ _).alloc (Nat.le_refl _) _⟩
  · go_simp
  · go_simp

set_option maxHeartbeats 400000 in
theorem pair (a0 a1 : Option Addr) (n0 c0 n1 c1 : Nat) (w : World) :
    Calls Try.prog 21 #[.slice a0 n0 c0, .slice a1 n1 c1] w fun e w' => e = .returned (.int .i64 (min n0 n1 : Nat)) ∧ w = w' := by
  by_cases h : n0 < n1
  · rw [show min n0 n1 = n0 from by omega]
    go_enter Try.func21, Try.ntmps21
    go_wp2
    go_ret
    exact ⟨rfl, rfl⟩
  · rw [show min n0 n1 = n1 from by omega]
    go_enter Try.func21, Try.ntmps21
    go_wp2
    go_ret
    exact ⟨rfl, rfl⟩

set_option maxHeartbeats 400000 in
theorem bytes19 (a0 a1 : Option Addr) (len0 cap0 len1 cap1 : Nat) (w : World) (h0 : len0 ≤ maxLen) (h1 : len1 ≤ maxLen) :
    Calls Try.prog 19 #[.slice a0 len0 cap0, .slice a1 len1 cap1] w fun e w' => ∃ b : Bool, e = .returned (.bool b) ∧ w = w' := by
  unfold maxLen at h0 h1
  go_enter Try.func19, Try.ntmps19
  go_wp2
  all_goals
    go_ret
    exact ⟨_, rfl, rfl⟩
end Go.Proofs.Qxb6000923a.Due
