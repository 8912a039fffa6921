import Derived.Test.Qxb6000923aClone
import Derived.Maps.OwnSet
namespace Go.Proofs.Qxb6000923a.Due
open Go.RowKit Go.Maps

theorem law30 : Keyed Try.prog 30 := int_keyed Try.underlying30
theorem zero3 (w : World) : (zeroValue 3).run Try.prog w = .ok (.int .i64 0) w := by kernel_rfl
def Wf (q : Int) : Prop := (Lit.int .u64 q).wf = true

/-- the number of entries that a value stands for: one if it is not nought -/
def one (n : Int) : Nat := if n = 0 then 0 else 1

/-- block bm is a map that holds, key by key, the numbers f that are not nought, c of them -/
def Holds (w : World) (bm N : Nat) (f : Int → Int) (c : Nat) : Prop :=
  ∃ D : DataW Unit, w.ownsMap Try.prog 30 (plainElem Try.prog 3) bm N D ∧ (∀ q, Wf q → D.atKey (.int .u64 q) (.lit (.int .i64 0)) = .lit (.int .i64 (f q)) ∧ Maps.has D (.int .u64 q) = (f q != 0)) ∧ Maps.size D = c

/-- f with v at q -/
def upd (f : Int → Int) (q v : Int) : Int → Int := fun x => if x = q then v else f x
theorem upd_same (f : Int → Int) (q v : Int) : upd f q v q = v := if_pos rfl
theorem upd_other (f : Int → Int) {q x : Int} (v : Int) (h : x ≠ q) : upd f q v x = f x := if_neg h

theorem Holds.look {w : World} {bm N : Nat} {f : Int → Int} {c : Nat} (h : Holds w bm N f c) {q : Int} (hq : Wf q) :
    (Instr.lookup 54 (.map (some bm)) (.int .u64 q) false).run Try.prog w = .ok (.int .i64 (f q)) w := by
  obtain ⟨D, hown, hD, _⟩ := h
  obtain ⟨v, hrun, hat, _⟩ := hown.lookup_int law30 Try.underlying54 Try.underlying3 (zero3 w) (keyOf_int_mk Try.underlying30 hq)
  rw [(hD q hq).1] at hat
  cases hat
  exact hrun

theorem Holds.look_ok {w : World} {bm N : Nat} {f : Int → Int} {c : Nat} (h : Holds w bm N f c) {q : Int} (hq : Wf q) :
    (Instr.lookup 54 (.map (some bm)) (.int .u64 q) true).run Try.prog w = .ok (.tuple #[.int .i64 (f q), .bool (f q != 0)]) w := by
  obtain ⟨D, hown, hD, _⟩ := h
  obtain ⟨v, ps, hrun, hR⟩ := hown.look_ok law30 Try.underlying54 (zero3 w) (plainElem_int Try.underlying3 (by decide)) (keyOf_int_mk Try.underlying30 hq)
  rw [(hD q hq).1] at hR
  obtain ⟨a, rfl, hz, _⟩ := plainElem_int_inv Try.underlying3 hR
  cases hz
  rw [(hD q hq).2] at hrun
  exact hrun

theorem Holds.kept {w w' : World} {bm N : Nat} {f : Int → Int} {c : Nat} (h : Holds w bm N f c) (hb : w'.heap[bm]? = w.heap[bm]?) : Holds w' bm N f c := by
  obtain ⟨D, ⟨es, clock, h1, h2⟩, hD⟩ := h
  exact ⟨D, ⟨es, clock, hb.trans h1, h2⟩, hD⟩

theorem isKey (q : Int) : WideAt.IsKeyLit (.int .u64 q) := trivial

/-- 'm[q] = v', v not nought -/
theorem Holds.put {w : World} {bm N : Nat} {f : Int → Int} {c : Nat} (h : Holds w bm N f c) (hN : N < maxLen) {q v : Int} (hq : Wf q) (hv : (Lit.int .i64 v).wf = true) :
    ∃ w' D', (Instr.mapUpdate 54 (.map (some bm)) (.int .u64 q) (.int .i64 v)).run Try.prog w = .ok () w' ∧ w.grownBy w' (some bm) ∧
      w'.ownsMap (H := Unit) Try.prog 30 (plainElem Try.prog 3) bm (N + 1) D' ∧
      (∀ x, Wf x → D'.atKey (.int .u64 x) (.lit (.int .i64 0)) = .lit (.int .i64 (upd f q v x)) ∧ (Maps.has D' (.int .u64 x) = if x = q then true else (f x != 0))) ∧ Maps.size D' + one (f q) = c + 1 := by
  obtain ⟨D, hown, hD, hc⟩ := h
  obtain ⟨w', hrun, hown', hgr⟩ := hown.update law30 Try.underlying54 hN (keyOf_int_mk Try.underlying30 hq) (plainElem_int Try.underlying3 hv)
  refine ⟨w', _, hrun, hgr, hown', ?_, ?_⟩
  · intro x hx
    by_cases e : x = q
    · subst e
      rw [upd_same, if_pos rfl]
      exact ⟨atKey_put_same hown.isMap (isKey x) _ _, has_put_same hown.isMap (isKey x) _⟩
    · have hne : (Lit.int .u64 x) ≠ .int .u64 q := fun h => e (by injection h)
      rw [upd_other f v e, if_neg e, atKey_put_other hne, has_put_other hne]
      exact hD x hx
  · rw [size_put (hown.tidy law30), (hD q hq).2]
    unfold one
    by_cases e : f q = 0
    · simp [e, hc]
    · simp [e, hc]

/-- a number within int's range (spelt as the walk leaves it) is well formed -/
theorem wf_wrap (n : Int) : (Lit.int .i64 (wrap64 n)).wf = true := wrap64_wf n

/-- 'm[q] += k' where the sum is not nought -/
theorem Holds.bump {w : World} {bm N : Nat} {f : Int → Int} {c : Nat} (h : Holds w bm N f c) (hN : N < maxLen) {q v : Int} (hq : Wf q) (hv : (Lit.int .i64 v).wf = true) (h0 : v ≠ 0) :
    ∃ wB c', (Instr.mapUpdate 54 (.map (some bm)) (.int .u64 q) (.int .i64 v)).run Try.prog w = .ok () wB ∧ (Instr.lookup 54 (.map (some bm)) (.int .u64 q) false).run Try.prog wB = .ok (.int .i64 v) wB ∧
      w.grownBy wB (some bm) ∧ Holds wB bm (N + 1) (upd f q v) c' ∧ c' + one (f q) = c + one v := by
  obtain ⟨wB, D', hrun, hgr, hown, hD, hs⟩ := h.put hN hq hv
  have hH : Holds wB bm (N + 1) (upd f q v) (Maps.size D') := by
    refine ⟨D', hown, fun x hx => ⟨(hD x hx).1, ?_⟩, rfl⟩
    rw [(hD x hx).2]
    by_cases e : x = q
    · subst e; rw [upd_same, if_pos rfl]; simp [h0]
    · rw [upd_other f v e, if_neg e]
  have hl := hH.look hq
  rw [upd_same] at hl
  exact ⟨wB, _, hrun, hl, hgr, hH, by rw [hs]; simp [one, h0]⟩

/-- .. where it is nought: the entry goes -/
theorem Holds.strike {w : World} {bm N : Nat} {f : Int → Int} {c : Nat} (h : Holds w bm N f c) (hN : N < maxLen) {q : Int} (hq : Wf q) (ty : TypeId) :
    ∃ wB wC c', (Instr.mapUpdate 54 (.map (some bm)) (.int .u64 q) (.int .i64 0)).run Try.prog w = .ok () wB ∧ (Instr.lookup 54 (.map (some bm)) (.int .u64 q) false).run Try.prog wB = .ok (.int .i64 0) wB ∧
      (Builtin.delete_ #[54, 30] ty #[.map (some bm), .int .u64 q]).run Try.prog wB = .ok (.tuple #[]) wC ∧
      w.grownBy wB (some bm) ∧ w.grownBy wC (some bm) ∧ Holds wC bm (N + 1) (upd f q 0) c' ∧ c' + one (f q) = c := by
  obtain ⟨wB, D', hrun, hgr, hown, hD, hs⟩ := h.put hN hq (v := 0) (by decide)
  obtain ⟨v, hl, hat, _⟩ := hown.lookup_int law30 Try.underlying54 Try.underlying3 (zero3 wB) (keyOf_int_mk Try.underlying30 hq)
  rw [(hD q hq).1, upd_same] at hat
  cases hat
  obtain ⟨wC, hdel, hown', htu⟩ := hown.drop law30 Try.underlying54 (keyOf_int_mk Try.underlying30 hq) ty
  refine ⟨wB, wC, _, hrun, hl, hdel, hgr, hgr.trans htu.grown, ⟨D'.del (.int .u64 q), hown', fun x hx => ?_, rfl⟩, ?_⟩
  · by_cases e : x = q
    · subst e
      rw [upd_same]
      exact ⟨atKey_del_same _, has_del_same⟩
    · have hne : (Lit.int .u64 x) ≠ .int .u64 q := fun h => e (by injection h)
      rw [atKey_del_other hne, has_del_other hne, (hD x hx).2, if_neg e]
      refine ⟨(hD x hx).1, ?_⟩
      rw [upd_other f 0 e]
  · have h1 := size_del (k := .int .u64 q) (hown.tidy law30)
    rw [(hD q hq).2, if_pos rfl, if_pos rfl] at h1
    omega

/-- the backlog at block B: its field 'due' is nil, all numbers nought; or leads to a map -/
def DueAt (w : World) (B N : Nat) (f : Int → Int) (c : Nat) : Prop :=
  B < w.heap.size ∧ w.frozen? ⟨B, 1, none⟩ = false ∧
  ((w.cell? ⟨B, 1, none⟩ = some (.map none) ∧ (∀ q, Wf q → f q = 0) ∧ c = 0) ∨
   ∃ bm, B < bm ∧ bm < w.heap.size ∧ w.cell? ⟨B, 1, none⟩ = some (.map (some bm)) ∧ Holds w bm N f c)

theorem DueAt.later {w w' : World} {B N : Nat} {f : Int → Int} {c : Nat} (h : DueAt w B N f c) (hb : Below w.heap.size w w') : DueAt w' B N f c := by
  obtain ⟨hB, hf, h⟩ := h
  refine ⟨Nat.lt_of_lt_of_le hB hb.size, (hb.frozen (p := ⟨B, 1, none⟩) hB).trans hf, ?_⟩
  rcases h with ⟨h1, h2⟩ | ⟨bm, h1, h2, h3, h4⟩
  · exact .inl ⟨cell_later hb h1, h2⟩
  · exact .inr ⟨bm, h1, Nat.lt_of_lt_of_le h2 hb.size, cell_later hb h3, h4.kept (hb.block bm h2)⟩

/-- the reads that ZZDueEntry and ZZDueLen make -/
theorem DueAt.entry {w : World} {B N : Nat} {f : Int → Int} {c : Nat} (h : DueAt w B N f c) {q : Int} (hq : Wf q) : ∃ m, w.cell? ⟨B, 1, none⟩ = some (.map m) ∧
    (Instr.lookup 54 (.map m) (.int .u64 q) true).run Try.prog w = .ok (.tuple #[.int .i64 (f q), .bool (f q != 0)]) w := by
  obtain ⟨_, _, h⟩ := h
  rcases h with ⟨h1, h2, _⟩ | ⟨bm, h1, h2, h3, h4⟩
  · refine ⟨none, h1, ?_⟩
    rw [h2 q hq]
    simpa using look_nil (w := w) true law30 Try.underlying54 (zero3 w) (keyOf_int_mk Try.underlying30 hq)
  · exact ⟨some bm, h3, h4.look_ok hq⟩

theorem DueAt.len {w : World} {B N : Nat} {f : Int → Int} {c : Nat} (h : DueAt w B N f c) (ty : TypeId) : ∃ m, w.cell? ⟨B, 1, none⟩ = some (.map m) ∧
    (Builtin.len_ #[54] ty #[.map m]).run Try.prog w = .ok (.int .i64 c) w := by
  obtain ⟨_, _, h⟩ := h
  rcases h with ⟨h1, _, rfl⟩ | ⟨bm, h1, h2, h3, D, hown, _, rfl⟩
  · exact ⟨none, h1, len_nil Try.underlying54 ty⟩
  · exact ⟨some bm, h3, hown.len Try.underlying54 ty⟩

set_option maxHeartbeats 400000 in
theorem entry_any (B N : Nat) (f : Int → Int) (c : Nat) (q : Int) (w : World) (h : DueAt w B N f c) (hq : Wf q) :
    Calls Try.prog 24 #[.pointer (some ⟨B, 0, none⟩), .int .u64 q] w fun e w' => e = .returned (.tuple #[.int .i64 (f q), .bool (f q != 0)]) ∧ w = w' := by
  obtain ⟨m, h1, hl⟩ := h.entry hq
  go_enter Try.func24, Try.ntmps24
  go_wp2
  go_ret2
  exact ⟨rfl, rfl⟩

set_option maxHeartbeats 400000 in
theorem len_any (B N : Nat) (f : Int → Int) (c : Nat) (w : World) (h : DueAt w B N f c) :
    Calls Try.prog 25 #[.pointer (some ⟨B, 0, none⟩)] w fun e w' => e = .returned (.int .i64 c) ∧ w = w' := by
  obtain ⟨m, h1, hl⟩ := h.len 3
  go_enter Try.func25, Try.ntmps25
  go_wp2
  go_ret
  exact ⟨rfl, rfl⟩
end Go.Proofs.Qxb6000923a.Due
