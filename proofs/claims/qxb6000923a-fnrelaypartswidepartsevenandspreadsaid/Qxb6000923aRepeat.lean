import Derived.Test.Qxb6000923aMul
import Derived.Laws.CopyOwn
import Derived.Deep.OwnRows
import Derived.WalkSpells
namespace Go.Proofs.Qxb6000923a.Relay
open Go.RowKit

theorem info3 : (Try.prog.info? 3).map (fun i => (i.zero, i.size, i.bytes)) = some (some (.int .i64 0), 1, 8) := by kernel_rfl
theorem size3 : (Try.prog.info? 3).map (·.size) = some 1 := by kernel_rfl

def oneV : Value := .int .i64 1
def zeroV : Value := .int .i64 0
/-- a row of n cells, the first m of them ones -/
def rep (n m : Nat) : List Value := List.replicate m oneV ++ List.replicate (n - m) zeroV
def ones (m : Nat) : List Value := List.replicate m oneV
theorem ones_length (m : Nat) : (ones m).length = m := by simp [ones]
theorem rep_length (n m : Nat) (h : m ≤ n) : (rep n m).length = n := by simp [rep]; omega
theorem made_rep (n : Nat) : madeCells #[.int .i64 0] n = (rep n 0).toArray := by
  apply Array.ext
  · simp [size_madeCells, rep]
  · intro i h1 h2
    simp [madeCells, rep, zeroV, Nat.mod_one]
theorem made_heap (w : World) (n : Nat) : (w.alloc (.cells (madeCells #[.int .i64 0] n) 3)).heap[w.heap.size]? = some (.cells (rep n 0).toArray 3 (0, 0)) := by
  rw [made_rep]
  exact (MapKept.heap_alloc w _).1
theorem rep_splice (n m c : Nat) (h : m + c ≤ n) : splice (rep n m) m (ones c) = rep n (m + c) := by
  simp only [splice, rep, ones]
  rw [List.take_append_of_le_length (by simp), List.drop_append]
  simp only [List.length_replicate]
  rw [List.take_of_length_le (by simp), List.drop_eq_nil_of_le (by simp), List.nil_append, List.drop_replicate, ← List.append_assoc, List.replicate_append_replicate]
  congr 2
  omega
theorem rep_cell (w : World) (g n m : Nat) (hg : w.heap[g]? = some (.cells (rep n m).toArray 3 (0, 0))) (j : Nat) (hj : j < m) : w.cell? ⟨g, j, none⟩ = some oneV := by
  simp [World.cell?, hg, rep, List.getElem?_append, hj]
theorem ones_one (c : Nat) : ∀ v ∈ ones c, v.oneCell' = true := by
  intro v hv
  obtain ⟨_, rfl⟩ := List.mem_replicate.1 hv
  rfl
theorem ones_get (c j : Nat) (v : Value) (h : (ones c)[j]? = some v) : j < c ∧ v = oneV := by
  simp [ones, List.getElem?_replicate] at h
  exact ⟨h.1, h.2.symm⟩

theorem copy_step (w wr : World) (g n m : Nat) (hm : m < n) (hg : wr.heap[g]? = some (.cells (rep n m).toArray 3 (0, 0))) (hb : Below g w wr) :
    ∃ w' c, (Builtin.copy_ #[22, 22] 3 #[.slice (some ⟨g, m, none⟩) (n - m) (n - m), .slice (some ⟨g, 0, none⟩) m n]).run Try.prog wr.drew = .ok (.int .i64 (c : Nat)) w' ∧
      c ≤ m ∧ c ≤ n - m ∧ (0 < m → 0 < c) ∧ Hid (w'.heap[g]? = some (.cells (rep n (m + c)).toArray 3 (0, 0))) ∧ Below g w w' := by
  have hl : (rep n m).length = n := rep_length n m (by omega)
  have hrun := run_copy_row (P := Try.prog) wr.drew 22 22 3 3 g m (n - m) (n - m) ⟨g, 0, none⟩ m n (rep n m).toArray 3 (ones (min m (n - m))) Try.underlying22 size3 hg
    (by rw [ones_length])
    (fun j v hv => by
      obtain ⟨hj, rfl⟩ := ones_get _ _ _ hv
      have := rep_cell wr g n m hg j (by omega)
      have e : (⟨g, 0, none⟩ : Addr).add j = ⟨g, j, none⟩ := by unfold Addr.add; split <;> simp_all
      rw [e]
      exact this)
    (by rw [ones_length]; simp [hl]; omega) (ones_one _)
  have hs := rep_splice n m (min m (n - m)) (by omega)
  unfold splice at hs
  rw [ones_length, ← List.append_assoc] at hs
  rw [ones_length] at hrun
  simp only at hrun
  rw [hs] at hrun
  refine ⟨_, min m (n - m), hrun, by omega, by omega, by omega, ?_, below_setRow hb.drew (Nat.le_refl _) _⟩
  exact setRow_heap wr.drew g (rep n m).toArray (rep n (m + min m (n - m))).toArray 3 _ hg

set_option maxHeartbeats 400000 in
theorem repeat_any (n : Nat) (ad : Addr) (w : World) (hn : n ≤ 32768) (hpos : 0 < n) (hone : w.cell? ad = some (.int .i64 1)) :
    Calls Try.prog 31 #[.slice (some ad) 1 1, .int .i64 n] w fun e w' => e = .returned (.slice (some ⟨w.heap.size, 0, none⟩) n n) ∧
      w'.heap[w.heap.size]? = some (.cells (List.replicate n oneV).toArray 3 (0, 0)) ∧ Below w.heap.size w w' := by
  have e4 := wrap_small n (by omega) (by omega)
  have hd1 : decide ((n : Int) < 0) = false := by simp
  have hd2 : decide (9223372036854775807 < (n : Int)) = false := by simp; omega
  have hmk := fun w => run_make_row' (P := Try.prog) 22 3 (.int .i64 0) 8 Try.underlying22 info3 rfl .i64 .i64 n (by omega) (by omega) w
  go_enter Try.func31, Try.ntmps31
  go_wp2_with (first | (go_at_call 32; refine (mul_any n _ (by omega) (by omega)).mono ?_; rintro e w' ⟨rfl, rfl⟩) | (refine wpList_copy_splice rfl (.tmp 31) (.tmp 32) 22 22 rfl 3 Try.underlying22 size3 _ _ _ _ _ _ rfl rfl w.heap.size 0 (rep n 0) 3 (made_heap _ _) (ones 1) ?c1 ?c2 ?c3 (ones_one 1) w.heap.size w ?c4 (Nat.le_refl _) ?_))
  case c1 => rw [ones_length]; show 1 = min 1 n; omega
  case c2 =>
    intro _ j v hv
    obtain ⟨hj, rfl⟩ := ones_get _ _ _ hv
    obtain rfl : j = 0 := by omega
    exact cell_later ((Below.refl _ _).alloc (Nat.le_refl _) _) (by simpa [Addr.add, oneV] using hone)
  case c3 => simp [ones, rep]; omega
  case c4 => exact (Below.refl _ _).alloc (Nat.le_refl _) _
  intro w2 HG2 hB2
  have HG : Hid (w2.heap[w.heap.size]? = some (.cells (rep n 1).toArray 3 (0, 0))) := by
    have h := HG2.out
    rw [rep_splice n 0 1 (by omega)] at h
    exact h
  clear hmk HG2
  go_wp2_with fail
  go_loopw [8] (fun i wr => ∃ m : Nat, 1 ≤ m ∧ m ≤ n ∧ i = .int .i64 m ∧ Hid (wr.heap[w.heap.size]? = some (.cells (rep n m).toArray 3 (0, 0))) ∧ Below w.heap.size w wr) (fun i _ => n - (intOf i).toNat)
  case atStart => exact ⟨1, by omega, by omega, rfl, HG, hB2⟩
  case round =>
    obtain ⟨m, hm1, hm2, rfl, hg, hb⟩ := hrel
    clear HG hB2
    by_cases hlt : m < n
    · have hne : ¬ n = m := by omega
      obtain ⟨w3, c, hrun, hc1, hc2, hc3, hg3, hb3⟩ := copy_step w wr w.heap.size n m hlt hg.out hb
      have hc0 := hc3 (by omega)
      clear hc3
      go_wp2
      go_region
      all_goals
        go_wp2
        go_roundw
        case rel => exact ⟨m + c, by omega, by omega, by go_num, hg3, hb3⟩
        case measure => simp [intOf]; omega
    · go_wp2
      go_ret
      obtain rfl : m = n := by omega
      refine ⟨rfl, ?_, hb⟩
      have h := hg.out
      simpa [rep] using h

set_option maxHeartbeats 400000 in
theorem repeat_zero (ad : Addr) (w : World) :
    Calls Try.prog 31 #[.slice (some ad) 1 1, .int .i64 0] w fun e w' => e = .returned (.slice (some ⟨w.heap.size, 0, none⟩) 0 0) ∧
      w'.heap[w.heap.size]? = some (.cells (List.replicate 0 oneV).toArray 3 (0, 0)) ∧ Below w.heap.size w w' := by
  have hmk : ∀ w : World, (Instr.makeSlice 22 (.int .i64 0) (.int .i64 0)).run Try.prog w = .ok (.slice (some ⟨w.heap.size, 0, none⟩) 0 0) (w.alloc (.cells (madeCells #[.int .i64 0] 0) 3)) :=
    fun w => run_make_row' (P := Try.prog) 22 3 (.int .i64 0) 8 Try.underlying22 info3 rfl .i64 .i64 0 (by omega) (by omega) w
  have hcp : ∀ w1 w2 : World, (Builtin.copy_ #[22, 22] 3 #[.slice (some ⟨w1.heap.size, 0, none⟩) 0 0, .slice (some ad) 1 1]).run Try.prog w2 = .ok (.int .i64 0) w2 :=
    fun w1 w2 => run_copy_none (P := Try.prog) w2 22 22 3 3 (some ⟨w1.heap.size, 0, none⟩) (some ad) 0 0 1 1 Try.underlying22 size3 rfl
  go_enter Try.func31, Try.ntmps31
  go_wp2_with (go_at_call 32; refine (mul_any 0 _ (by omega) (by omega)).mono ?_; rintro e w' ⟨rfl, rfl⟩)
  refine wp_loop_rounds 1 ?_
  rw [rounds_succ]
  go_wp2
  go_ret
  exact ⟨rfl, made_heap w 0, (Below.refl _ _).alloc (Nat.le_refl _) _⟩

theorem repeat_all (n : Nat) (ad : Addr) (w : World) (hn : n ≤ 32768) (hone : w.cell? ad = some (.int .i64 1)) :
    Calls Try.prog 31 #[.slice (some ad) 1 1, .int .i64 n] w fun e w' => e = .returned (.slice (some ⟨w.heap.size, 0, none⟩) n n) ∧
      w'.heap[w.heap.size]? = some (.cells (List.replicate n oneV).toArray 3 (0, 0)) ∧ Below w.heap.size w w' := by
  by_cases h : 0 < n
  · exact repeat_any n ad w hn h hone
  · obtain rfl : n = 0 := by omega
    exact repeat_zero ad w
end Go.Proofs.Qxb6000923a.Relay
