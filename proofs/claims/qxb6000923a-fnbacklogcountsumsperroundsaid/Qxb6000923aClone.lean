import Derived.Test.Qxb6000923aProg
import Derived.WalkKit
import Derived.WalkSpells
import Derived.Deep.OwnRows
import Derived.OpenShut
namespace Go.Proofs.Qxb6000923a
open Go.RowKit

/-- WHAT THE WALK IS TOLD OF A SLICE OF INTEGERS THAT CAME IN (the shell's own words). -/
def IsRow (k : IntKind) (w : World) (a : Option Addr) (len cap : Nat) (zs : List Int) : Prop :=
  (a = none ∧ len = 0 ∧ cap = 0 ∧ zs = []) ∨
  ∃ x, a = some x ∧ len ≤ cap ∧ cap ≤ maxLen ∧ zs.length = cap ∧ (∀ i, i < zs.length → w.cell? (x.add i) = some (.int k (zs.getD i 0))) ∧ ∀ n ∈ zs, (Lit.int k n).wf = true

/-- A slice of the call's own: nil and empty, or the whole of one block. -/
def Own (k : IntKind) (t : TypeId) (w : World) (base : Nat) (a : Option Addr) (len : Nat) (z : Nat → Int) : Prop :=
  (a = none ∧ len = 0) ∨ ∃ g, a = some ⟨g, 0, none⟩ ∧ base ≤ g ∧ w.rowIs g t len (fun i => .int k (z i))

namespace Clone
theorem info30 : (Try.prog.info? 30).map (fun i => (i.zero, i.size, i.bytes)) = some (some (.int .u64 0), 1, 8) := by kernel_rfl
theorem info3 : (Try.prog.info? 3).map (fun i => (i.zero, i.size, i.bytes)) = some (some (.int .i64 0), 1, 8) := by kernel_rfl

/-- the copy after m rounds -/
def at_ (k : IntKind) (z : Nat → Int) (m i : Nat) : Value := .int k (if i < m then z i else 0)
theorem at_step {w : World} {g : Nat} {t : TypeId} {n : Nat} {k : IntKind} {z : Nat → Int} {m : Nat} (hr : w.rowIs g t n (at_ k z m)) :
    (w.setCell ⟨g, m, none⟩ (.int k (z m))).rowIs g t n (at_ k z (m + 1)) := by
  refine (hr.set m (.int k (z m))).congr fun i _ => ?_
  by_cases e : i = m
  · subst e; simp [at_]
  · have : (i < m + 1) = (i < m) := by apply propext; omega
    simp [at_, e, this]

set_option maxHeartbeats 400000 in
theorem u64_nil (w : World) :
    Calls Try.prog 12 #[.slice none 0 0] w fun e w' => e = .returned (.slice none 0 0) ∧ w = w' := by
  have q : ∀ (w : World) (a : Option Addr) (n c : Nat), (binOp .eql 25 (.slice a n c) (.slice none 0 0)).run Try.prog w = .ok (.bool a.isNone) w := fun w a n c => Lib.run_eql_slice_nil w _ _ a n c 0 0 Try.underlying25
  go_enter Try.func12, Try.ntmps12
  go_wp2
  go_ret
  exact ⟨rfl, rfl⟩

theorem made_at (w : World) (k : IntKind) (z : Nat → Int) (n : Nat) (t : TypeId) : (w.alloc (.cells (madeCells #[.int k 0] n) t)).rowIs w.heap.size t n (at_ k z 0) :=
  (World.rowIs_made w (.int k 0) n t).congr fun i _ => by simp [at_]

set_option maxHeartbeats 1000000 in
theorem u64_some (x : Addr) (len cap : Nat) (z : Nat → Int) (w : World) (hl : len ≤ 4096) (hc : ∀ i, i < len → ∃ b off, x = ⟨b, off, none⟩ ∧ b < w.heap.size ∧ w.cell? ⟨b, off + i, none⟩ = some (.int .u64 (z i))) :
    Calls Try.prog 12 #[.slice (some x) len cap] w fun e w' => e = .returned (.slice (some ⟨w.heap.size, 0, none⟩) len len) ∧ w'.rowIs w.heap.size 30 len (fun i => .int .u64 (z i)) ∧ Below w.heap.size w w' := by
  have q : ∀ (w : World) (a : Option Addr) (n c : Nat), (binOp .eql 25 (.slice a n c) (.slice none 0 0)).run Try.prog w = .ok (.bool a.isNone) w := fun w a n c => Lib.run_eql_slice_nil w _ _ a n c 0 0 Try.underlying25
  have hmk := fun w => run_make_row' (P := Try.prog) 25 30 (.int .u64 0) 8 Try.underlying25 info30 rfl .i64 .i64 len (by omega) (by omega) w
  have Hc : Hid (∀ i, i < len → ∃ b off, x = ⟨b, off, none⟩ ∧ b < w.heap.size ∧ w.cell? ⟨b, off + i, none⟩ = some (.int .u64 (z i))) := hc
  clear hc
  go_enter Try.func12, Try.ntmps12
  go_wp2
  clear hmk q
  go_loopw [4] (fun i wr => ∃ m : Nat, m ≤ len ∧ i = .int .i64 m ∧ wr.rowIs w.heap.size 30 len (at_ .u64 z m) ∧ Below w.heap.size w wr) (fun i _ => len - (intOf i).toNat)
  case atStart => exact ⟨0, by omega, rfl, made_at w .u64 z len 30, (Below.refl _ _).alloc (Nat.le_refl _) _⟩
  case round =>
    obtain ⟨m, hm, rfl, hrow, hb⟩ := hrel
    by_cases hlt : m < len
    · obtain ⟨b, off, rfl, hbs, hcell⟩ := Hc.out m hlt
      have hcr : wr.cell? ⟨b, off + m, none⟩ = some (.int .u64 (z m)) := (hb.cell hbs).trans hcell
      have hd := hrow.cell hlt
      have hf := hrow.frozen m
      clear hcell
      go_wp2
      go_roundw
      case rel => exact ⟨m + 1, by omega, by go_num, at_step hrow, hb.setCell (Nat.le_refl _) _⟩
      case measure => simp [intOf]; omega
    · go_wp2
      go_ret
      obtain rfl : m = len := by omega
      exact ⟨rfl, hrow.congr fun i hi => by simp [at_, hi], hb⟩
theorem cells_of {k : IntKind} {w : World} {x : Addr} {len cap : Nat} {zs : List Int} (hlc : len ≤ cap) (hz : zs.length = cap) (hcell : ∀ i, i < zs.length → w.cell? (x.add i) = some (.int k (zs.getD i 0))) :
    ∀ i, i < len → ∃ b off, x = ⟨b, off, none⟩ ∧ b < w.heap.size ∧ w.cell? ⟨b, off + i, none⟩ = some (.int k (zs.getD i 0)) := by
  intro i hi
  obtain ⟨b, off, rfl, hc⟩ := ints_at hcell (by omega)
  have h := hc i (by omega)
  exact ⟨b, off, rfl, World.block_lt_of_cell? _ _ h, h⟩

theorem u64_any (a : Option Addr) (len cap : Nat) (zs : List Int) (w : World) (h : IsRow .u64 w a len cap zs) (hl : len ≤ 4096) :
    Calls Try.prog 12 #[.slice a len cap] w fun e w' => ∃ a', e = .returned (.slice a' len len) ∧ Own .u64 30 w' w.heap.size a' len (fun i => zs.getD i 0) ∧ Below w.heap.size w w' := by
  rcases h with ⟨rfl, rfl, rfl, rfl⟩ | ⟨x, rfl, hlc, hm, hz, hcell, _⟩
  · refine (u64_nil w).mono ?_
    rintro e w' ⟨rfl, rfl⟩
    exact ⟨none, rfl, .inl ⟨rfl, rfl⟩, Below.refl _ _⟩
  · refine (u64_some x len cap (fun i => zs.getD i 0) w hl (cells_of hlc hz hcell)).mono ?_
    rintro e w' ⟨rfl, hr, hb⟩
    exact ⟨_, rfl, .inr ⟨_, rfl, Nat.le_refl _, hr⟩, hb⟩

set_option maxHeartbeats 400000 in
theorem i64_nil (w : World) :
    Calls Try.prog 20 #[.slice none 0 0] w fun e w' => e = .returned (.slice none 0 0) ∧ w = w' := by
  have q : ∀ (w : World) (a : Option Addr) (n c : Nat), (binOp .eql 22 (.slice a n c) (.slice none 0 0)).run Try.prog w = .ok (.bool a.isNone) w := fun w a n c => Lib.run_eql_slice_nil w _ _ a n c 0 0 Try.underlying22
  go_enter Try.func20, Try.ntmps20
  go_wp2
  go_ret
  exact ⟨rfl, rfl⟩

set_option maxHeartbeats 1000000 in
theorem i64_some (x : Addr) (len cap : Nat) (z : Nat → Int) (w : World) (hl : len ≤ 4096) (hc : ∀ i, i < len → ∃ b off, x = ⟨b, off, none⟩ ∧ b < w.heap.size ∧ w.cell? ⟨b, off + i, none⟩ = some (.int .i64 (z i))) :
    Calls Try.prog 20 #[.slice (some x) len cap] w fun e w' => e = .returned (.slice (some ⟨w.heap.size, 0, none⟩) len len) ∧ w'.rowIs w.heap.size 3 len (fun i => .int .i64 (z i)) ∧ Below w.heap.size w w' := by
  have q : ∀ (w : World) (a : Option Addr) (n c : Nat), (binOp .eql 22 (.slice a n c) (.slice none 0 0)).run Try.prog w = .ok (.bool a.isNone) w := fun w a n c => Lib.run_eql_slice_nil w _ _ a n c 0 0 Try.underlying22
  have hmk := fun w => run_make_row' (P := Try.prog) 22 3 (.int .i64 0) 8 Try.underlying22 info3 rfl .i64 .i64 len (by omega) (by omega) w
  have Hc : Hid (∀ i, i < len → ∃ b off, x = ⟨b, off, none⟩ ∧ b < w.heap.size ∧ w.cell? ⟨b, off + i, none⟩ = some (.int .i64 (z i))) := hc
  clear hc
  go_enter Try.func20, Try.ntmps20
  go_wp2
  clear hmk q
  go_loopw [4] (fun i wr => ∃ m : Nat, m ≤ len ∧ i = .int .i64 m ∧ wr.rowIs w.heap.size 3 len (at_ .i64 z m) ∧ Below w.heap.size w wr) (fun i _ => len - (intOf i).toNat)
  case atStart => exact ⟨0, by omega, rfl, made_at w .i64 z len 3, (Below.refl _ _).alloc (Nat.le_refl _) _⟩
  case round =>
    obtain ⟨m, hm, rfl, hrow, hb⟩ := hrel
    by_cases hlt : m < len
    · obtain ⟨b, off, rfl, hbs, hcell⟩ := Hc.out m hlt
      have hcr : wr.cell? ⟨b, off + m, none⟩ = some (.int .i64 (z m)) := (hb.cell hbs).trans hcell
      have hd := hrow.cell hlt
      have hf := hrow.frozen m
      clear hcell
      go_wp2
      go_roundw
      case rel => exact ⟨m + 1, by omega, by go_num, at_step hrow, hb.setCell (Nat.le_refl _) _⟩
      case measure => simp [intOf]; omega
    · go_wp2
      go_ret
      obtain rfl : m = len := by omega
      exact ⟨rfl, hrow.congr fun i hi => by simp [at_, hi], hb⟩
theorem i64_any (a : Option Addr) (len cap : Nat) (zs : List Int) (w : World) (h : IsRow .i64 w a len cap zs) (hl : len ≤ 4096) :
    Calls Try.prog 20 #[.slice a len cap] w fun e w' => ∃ a', e = .returned (.slice a' len len) ∧ Own .i64 3 w' w.heap.size a' len (fun i => zs.getD i 0) ∧ Below w.heap.size w w' := by
  rcases h with ⟨rfl, rfl, rfl, rfl⟩ | ⟨x, rfl, hlc, hm, hz, hcell, _⟩
  · refine (i64_nil w).mono ?_
    rintro e w' ⟨rfl, rfl⟩
    exact ⟨none, rfl, .inl ⟨rfl, rfl⟩, Below.refl _ _⟩
  · refine (i64_some x len cap (fun i => zs.getD i 0) w hl (cells_of hlc hz hcell)).mono ?_
    rintro e w' ⟨rfl, hr, hb⟩
    exact ⟨_, rfl, .inr ⟨_, rfl, Nat.le_refl _, hr⟩, hb⟩
end Clone
end Go.Proofs.Qxb6000923a
