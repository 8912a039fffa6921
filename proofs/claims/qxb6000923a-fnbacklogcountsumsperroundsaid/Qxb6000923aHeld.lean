import Derived.Test.Qxb6000923aClone
import Derived.Maps.OwnSet
namespace Go.Proofs.Qxb6000923a.Held
open Go.RowKit Go.Maps

/-- HOW A POINTER IN A MAP READS, for the proof alone: as itself. -/
def ptrElem : Value → Option (DataW (Option Addr) × List MemPlace)
  | .pointer a => some (.held a, [])
  | _ => none
theorem ptrElem_inv {v : Value} {d : DataW (Option Addr)} {ps : List MemPlace} (h : ptrElem v = some (d, ps)) : ∃ a, v = .pointer a ∧ d = .held a := by
  unfold ptrElem at h
  cases v <;> simp at h
  exact ⟨_, rfl, h.1.symm⟩

theorem law30 : Keyed Try.prog 30 := int_keyed Try.underlying30
theorem zero31 (w : World) : (zeroValue 31).run Try.prog w = .ok (.pointer none) w := by kernel_rfl
def Wf (q : Int) : Prop := (Lit.int .u64 q).wf = true

/-- the map in the field 'blocks': nil and empty, or a block that reads, key by key, as g -/
def MapAt (w : World) (m : Option Nat) (N : Nat) (g : Int → Option Addr) : Prop :=
  (m = none ∧ ∀ q, Wf q → g q = none) ∨
  ∃ bm D, m = some bm ∧ w.ownsMap Try.prog 30 ptrElem bm N D ∧ ∀ q, Wf q → D.atKey (.int .u64 q) (.held none) = .held (g q)

theorem MapAt.look {w : World} {m : Option Nat} {N : Nat} {g : Int → Option Addr} (h : MapAt w m N g) {q : Int} (hq : Wf q) :
    (Instr.lookup 47 (.map m) (.int .u64 q) false).run Try.prog w = .ok (.pointer (g q)) w := by
  rcases h with ⟨rfl, h⟩ | ⟨bm, D, rfl, hown, hg⟩
  · rw [h q hq]
    simpa using look_nil (w := w) false law30 Try.underlying47 (zero31 w) (keyOf_int_mk Try.underlying30 hq)
  · obtain ⟨v, ps, hrun, hR⟩ := hown.lookup law30 Try.underlying47 (zero31 w) (zd := .held none) (zp := []) rfl (keyOf_int_mk Try.underlying30 hq)
    rw [hg q hq] at hR
    obtain ⟨a, rfl, ha⟩ := ptrElem_inv hR
    cases ha
    exact hrun

theorem MapAt.kept {w w' : World} {m : Option Nat} {N B : Nat} {g : Int → Option Addr} (h : MapAt w m N g) (hg : w.grownBy w' (some B)) (hm : m ≠ some B) : MapAt w' m N g := by
  rcases h with h | ⟨bm, D, rfl, hown, h⟩
  · exact .inl h
  · exact .inr ⟨bm, D, rfl, hown.kept hg hm, h⟩

set_option maxHeartbeats 400000 in
theorem stored (B : Nat) (m : Option Nat) (q : Int) (p : Option Addr) (w : World) (h6 : w.cell? ⟨B, 6, none⟩ = some (.map m))
    (hl : (Instr.lookup 47 (.map m) (.int .u64 q) false).run Try.prog w = .ok (.pointer p) w) :
    Calls Try.prog 14 #[.pointer (some ⟨B, 0, none⟩), .int .u64 q] w fun e w' => e = .returned (.pointer p) ∧ w = w' := by
  go_enter Try.func14, Try.ntmps14
  go_wp2
  go_ret
  exact ⟨rfl, rfl⟩

set_option maxHeartbeats 400000 in
theorem tag (b : Nat) (q : Int) (w : World) (h0 : w.cell? ⟨b, 0, none⟩ = some (.int .u64 q)) :
    Calls Try.prog 17 #[.pointer (some ⟨b, 0, none⟩)] w fun e w' => e = .returned (.int .u64 q) ∧ w = w' := by
  go_enter Try.func17, Try.ntmps17
  go_wp2
  go_ret
  exact ⟨rfl, rfl⟩

/-- the set's own cells: the map, and the cache, which is empty or holds what the map holds -/
structure Cache (w : World) (B : Nat) (m : Option Nat) (g : Int → Option Addr) : Prop where
  c6 : w.cell? ⟨B, 6, none⟩ = some (.map m)
  f7 : w.frozen? ⟨B, 7, none⟩ = false
  f8 : w.frozen? ⟨B, 8, none⟩ = false
  c78 : ∃ la, w.cell? ⟨B, 7, none⟩ = some (.int .u64 la) ∧ (w.cell? ⟨B, 8, none⟩ = some (.pointer none) ∨ ∃ x, g la = some x ∧ w.cell? ⟨B, 8, none⟩ = some (.pointer (some x)))

theorem Cache.set {w : World} {B : Nat} {m : Option Nat} {g : Int → Option Addr} (h : Cache w B m g) {q : Int} {x : Addr} (hx : g q = some x) :
    Cache ((w.setCell ⟨B, 7, none⟩ (.int .u64 q)).setCell ⟨B, 8, none⟩ (.pointer (some x))) B m g := by
  obtain ⟨la, h7, h8⟩ := h.c78
  have h8' : ∃ v, w.cell? ⟨B, 8, none⟩ = some v := by
    rcases h8 with h8 | ⟨_, _, h8⟩ <;> exact ⟨_, h8⟩
  obtain ⟨v, h8'⟩ := h8'
  have h6 := h.c6
  have f7 := h.f7
  have f8 := h.f8
  exact ⟨by go_simp, by go_simp, by go_simp, q, by go_simp, .inr ⟨x, hx, by go_simp⟩⟩

theorem grown_two (w : World) (B : Nat) (u v : Value) : w.grownBy ((w.setCell ⟨B, 7, none⟩ u).setCell ⟨B, 8, none⟩ v) (some B) :=
  ⟨rfl, rfl, rfl, by simp [World.setCell], fun i _ hi => by
    rw [Below.heap_setCell _ _ _ _ (fun e => hi (by rw [e])), Below.heap_setCell _ _ _ _ (fun e => hi (by rw [e]))]⟩

set_option maxHeartbeats 400000 in
theorem block (B : Nat) (m : Option Nat) (g : Int → Option Addr) (q : Int) (w : World) (h : Cache w B m g)
    (hl : (Instr.lookup 47 (.map m) (.int .u64 q) false).run Try.prog w = .ok (.pointer (g q)) w) :
    Calls Try.prog 29 #[.pointer (some ⟨B, 0, none⟩), .int .u64 q] w fun e w' => e = .returned (.pointer (g q)) ∧ Cache w' B m g ∧ w.grownBy w' (some B) := by
  have HC : Hid (Cache w B m g) := h
  have hS : ∀ x, g q = some x → Cache ((w.setCell ⟨B, 7, none⟩ (.int .u64 q)).setCell ⟨B, 8, none⟩ (.pointer (some x))) B m g := fun x hx => h.set hx
  obtain ⟨h6, f7, f8, la, h7, h8⟩ := h
  generalize hp : g q = p at hl hS ⊢
  rcases h8 with h8 | ⟨x, hx, h8⟩
  · clear hp
    rcases p with _ | y
    · clear hS
      go_enter Try.func29, Try.ntmps29
      go_wp2
      go_ret
      exact ⟨rfl, HC.out, World.grownBy.refl _ _⟩
    · have HS : Hid (Cache ((w.setCell ⟨B, 7, none⟩ (.int .u64 q)).setCell ⟨B, 8, none⟩ (.pointer (some y))) B m g) := hS y rfl
      clear hS
      go_enter Try.func29, Try.ntmps29
      go_wp2
      go_ret
      exact ⟨rfl, HS.out, grown_two _ _ _ _⟩
  · by_cases hq : la = q
    · subst hq
      rw [hx] at hp
      subst hp
      clear hS
      go_enter Try.func29, Try.ntmps29
      go_wp2
      go_ret
      exact ⟨rfl, HC.out, World.grownBy.refl _ _⟩
    · have hqb : (la == q) = false := by simp [hq]
      clear hp hx hq
      rcases p with _ | y
      · clear hS
        go_enter Try.func29, Try.ntmps29
        go_wp2
        go_ret
        exact ⟨rfl, HC.out, World.grownBy.refl _ _⟩
      · have HS : Hid (Cache ((w.setCell ⟨B, 7, none⟩ (.int .u64 q)).setCell ⟨B, 8, none⟩ (.pointer (some y))) B m g) := hS y rfl
        clear hS
        go_enter Try.func29, Try.ntmps29
        go_wp2
        go_ret
        exact ⟨rfl, HS.out, grown_two _ _ _ _⟩

set_option maxHeartbeats 400000 in
theorem zblock (B : Nat) (m : Option Nat) (g : Int → Option Addr) (q : Int) (w : World) (h : Cache w B m g)
    (hl : (Instr.lookup 47 (.map m) (.int .u64 q) false).run Try.prog w = .ok (.pointer (g q)) w) :
    Calls Try.prog 15 #[.pointer (some ⟨B, 0, none⟩), .int .u64 q] w fun e w' => e = .returned (.pointer (g q)) ∧ Cache w' B m g ∧ w.grownBy w' (some B) := by
  go_enter Try.func15, Try.ntmps15
  go_wp2_with (go_at_call 29; refine (block B m g q w h hl).mono ?_; rintro e w' ⟨rfl, hC, hg⟩)
  go_ret
  exact ⟨rfl, hC, hg⟩

/-- is q among the first n numbers? -/
def hasKey (z : Nat → Int) (n : Nat) (q : Int) : Bool := decide (∃ i, i < n ∧ z i = q)

set_option maxHeartbeats 400000 in
theorem holds (base : Nat) (a : Option Addr) (len : Nat) (z : Nat → Int) (q : Int) (w : World) (ho : Own .u64 30 w base a len z) (hl : len ≤ 4096) :
    Calls Try.prog 16 #[.slice a len len, .int .u64 q] w fun e w' => e = .returned (.bool (hasKey z len q)) ∧ w = w' := by
  have HO : Hid (Own .u64 30 w base a len z) := ho
  clear ho
  go_enter Try.func16, Try.ntmps16
  go_wp2
  go_loop [5] (fun i => ∃ m : Nat, m ≤ len ∧ i = .int .i64 m ∧ ∀ j, j < m → z j ≠ q) (fun i => len - (intOf i).toNat)
  case atStart => exact ⟨0, by omega, rfl, fun j hj => by omega⟩
  case round =>
    obtain ⟨m, hm, rfl, hno⟩ := hrel
    have Hno : Hid (∀ j, j < m → z j ≠ q) := hno
    clear hno
    by_cases hlt : m < len
    · rcases HO.out with ⟨_, h0⟩ | ⟨g, rfl, _, hrow⟩
      · omega
      · have hc := hrow.cell hlt
        clear hrow
        by_cases hq : z m = q
        · have hqb : (z m == q) = true := by simp [hq]
          have HQ : Hid (z m = q) := hq
          clear hq
          go_wp2
          go_ret
          refine ⟨?_, rfl⟩
          rw [show hasKey z len q = true from decide_eq_true ⟨m, hlt, HQ.out⟩]
          rfl
        · have hqb : (z m == q) = false := by simp [hq]
          have HQ : Hid (z m ≠ q) := hq
          clear hq
          go_wp2
          go_round
          case rel => exact ⟨m + 1, by omega, by go_num, fun j hj => by rcases Nat.lt_succ_iff_lt_or_eq.1 hj with h | rfl; exact Hno.out j h; exact HQ.out⟩
          case measure => simp [intOf]; omega
    · go_wp2
      go_ret
      refine ⟨?_, rfl⟩
      rw [show hasKey z len q = false from decide_eq_false (fun ⟨i, hi, e⟩ => Hno.out i (by omega) e)]
      rfl
end Go.Proofs.Qxb6000923a.Held
