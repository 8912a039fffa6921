import Derived.Test.Qxb6000923aHeld
namespace Go.Proofs.Qxb6000923a.Held
open Go.RowKit Go.Maps

/-- which block lies under which key: none just where the key is not among the first n; else a block that bears the key as its tag -/
def Tags (w : World) (B : Nat) (z : Nat → Int) (n : Nat) (g : Int → Option Addr) : Prop :=
  ∀ q, Wf q → ((g q).isSome = hasKey z n q) ∧ ∀ x, g q = some x → ∃ b, x = ⟨b, 0, none⟩ ∧ b ≠ B ∧ b < w.heap.size ∧ w.cell? ⟨b, 0, none⟩ = some (.int .u64 q)

theorem makeMap_hint (n : Int) (w : World) : (Instr.makeMap 47 (some (.int .i64 n))).run Try.prog w = .ok (.map (some w.heap.size)) (w.alloc (.map #[] 0)) := by
  simp only [Instr.makeMap]
  rw [show (underlying 47 : Sem _) = underlying 47 from rfl]
  simp [run_underlying Try.underlying47, asInt]
  rfl

/-- a set as ZZNewHeldSet leaves it: nothing in the window, the map m, nothing in the cache -/
def fresh (m : Option Nat) : Obj := .cells #[.int .i64 0, .slice none 0 0, .int .u64 0, .int .i64 0, .int .i64 0, .int .i64 0, .map m, .int .u64 0, .pointer none] 49 (0, 0)

theorem fresh_cache {w : World} {B : Nat} {m : Option Nat} (h : w.heap[B]? = some (fresh m)) (g : Int → Option Addr) : Cache w B m g := by
  unfold fresh at h
  exact ⟨by simp [World.cell?, h], by simp [World.frozen?, h], by simp [World.frozen?, h], 0, by simp [World.cell?, h], .inl (by simp [World.cell?, h])⟩

theorem fresh_c6 {w : World} {B : Nat} {m : Option Nat} (h : w.heap[B]? = some (fresh m)) : w.cell? ⟨B, 6, none⟩ = some (.map m) := (fresh_cache h (fun _ => none)).c6

set_option maxHeartbeats 400000 in
theorem new_nil (a : Option Addr) (w : World) :
    Calls Try.prog 13 #[.slice a 0 0] w fun e w' => e = .returned (.pointer (some ⟨w.heap.size, 0, none⟩)) ∧ w'.heap[w.heap.size]? = some (fresh none) ∧ Below w.heap.size w w' := by
  go_enter Try.func13, Try.ntmps13
  go_wp2
  refine wp_loop_rounds 1 ?_
  rw [rounds_succ]
  go_wp2
  go_ret
  exact ⟨rfl, (MapKept.heap_alloc w _).1, (Below.refl _ _).alloc (Nat.le_refl _) _⟩

def blockOf (q : Int) : Obj := .cells #[.int .u64 q, .int .u64 0, .slice none 0 0] 52 (0, 0)

theorem hasKey_succ (z : Nat → Int) (n : Nat) (q : Int) : hasKey z (n + 1) q = (hasKey z n q || decide (z n = q)) := by
  unfold hasKey
  rw [Bool.eq_iff_iff]
  simp only [decide_eq_true_eq, Bool.or_eq_true]
  constructor
  · rintro ⟨i, hi, e⟩
    by_cases h : i = n
    · exact .inr (h ▸ e)
    · exact .inl ⟨i, by omega, e⟩
  · rintro (⟨i, hi, e⟩ | e)
    · exact ⟨i, by omega, e⟩
    · exact ⟨n, by omega, e⟩

theorem store_step (wr : World) (B bm k : Nat) (z : Nat → Int) (g : Int → Option Addr) (hk : k < 4096) (hbm : bm < wr.heap.size) (hne : bm ≠ B) (hB : B < wr.heap.size) (hq : Wf (z k))
    (hm : MapAt wr (some bm) k g) (ht : Tags wr B z k g) :
    ∃ w2 g', (Instr.mapUpdate 47 (.map (some bm)) (.int .u64 (z k)) (.pointer (some ⟨wr.heap.size, 0, none⟩))).run Try.prog (wr.alloc (blockOf (z k))).drew = .ok () w2 ∧
      (wr.alloc (blockOf (z k))).drew.grownBy w2 (some bm) ∧ MapAt w2 (some bm) (k + 1) g' ∧ Tags w2 B z (k + 1) g' := by
  rcases hm with ⟨h, _⟩ | ⟨bm', D, e, hown, hg⟩
  · cases h
  · cases e
    obtain ⟨w2, hrun, hown2, hgr⟩ := ((hown.alloc (blockOf (z k))).drew).update law30 Try.underlying47 (by unfold maxLen; omega) (val := .pointer (some ⟨wr.heap.size, 0, none⟩)) (keyOf_int_mk Try.underlying30 hq) rfl
    have hal := MapKept.heap_alloc wr (blockOf (z k))
    have hsz : (wr.alloc (blockOf (z k))).heap.size = wr.heap.size + 1 := by simp
    refine ⟨w2, fun q => if q = z k then some ⟨wr.heap.size, 0, none⟩ else g q, hrun, hgr, .inr ⟨bm, _, rfl, hown2, ?_⟩, ?_⟩
    · intro q hwq
      by_cases e : q = z k
      · subst e
        show _ = DataW.held (if z k = z k then some ⟨wr.heap.size, 0, none⟩ else g (z k))
        rw [if_pos rfl]
        exact atKey_put_same (k := .int .u64 (z k)) hown.isMap (show WideAt.IsKeyLit (.int .u64 (z k)) from trivial) _ _
      · show _ = DataW.held (if q = z k then some ⟨wr.heap.size, 0, none⟩ else g q)
        rw [if_neg e, atKey_put_other (fun h => e (by injection h)), hg q hwq]
    · intro q hwq
      obtain ⟨t1, t2⟩ := ht q hwq
      rw [hasKey_succ]
      by_cases e : q = z k
      · subst e
        simp only [if_pos]
        refine ⟨by simp, ?_⟩
        rintro x hx
        cases hx
        refine ⟨wr.heap.size, rfl, by omega, ?_, ?_⟩
        · have := hgr.size
          simp at this
          omega
        · have hb := hgr.block wr.heap.size (by show _ < (wr.alloc (blockOf (z k))).heap.size; omega) (by intro h; cases h; omega)
          have hb2 : w2.heap[wr.heap.size]? = some (blockOf (z k)) := hb.trans hal.1
          simp [World.cell?, hb2, blockOf]
      · have e' : ¬ z k = q := fun h => e h.symm
        simp only [if_neg e]
        refine ⟨by simp [t1, e'], fun x hx => ?_⟩
        obtain ⟨b, rfl, hb1, hb2, hb3⟩ := t2 x hx
        have hbbm : b ≠ bm := by
          rintro rfl
          obtain ⟨es, clock, hmb, _⟩ := hown
          simp [World.cell?, hmb] at hb3
        refine ⟨b, rfl, hb1, ?_, ?_⟩
        · have := hgr.size
          simp at this
          omega
        · have hb := hgr.block b (by show _ < (wr.alloc (blockOf (z k))).heap.size; omega) (by intro h; cases h; exact hbbm rfl)
          have h2 : (wr.alloc (blockOf (z k))).heap[b]? = wr.heap[b]? := Below.heap_alloc wr (blockOf (z k)) b hb2
          exact (World.cell?_of_block (w := wr) (a := ⟨b, 0, none⟩) (hb.trans h2)).trans hb3

theorem start_map (w : World) (o : Obj) (z : Nat → Int) (B : Nat) : MapAt ((w.alloc o).alloc (.map #[] 0)) (some (w.heap.size + 1)) 0 (fun _ => none) ∧ Tags ((w.alloc o).alloc (.map #[] 0)) B z 0 (fun _ => none) := by
  have h := World.ownsMap_made (w.alloc o) Try.prog 30 ptrElem
  have hs : (w.alloc o).heap.size = w.heap.size + 1 := by simp
  rw [hs] at h
  refine ⟨.inr ⟨_, _, rfl, h, fun q _ => rfl⟩, fun q _ => ⟨?_, fun x hx => by cases hx⟩⟩
  simp [hasKey]

theorem start_fresh (w : World) (o o' : Obj) : ((w.alloc o).alloc o').heap[w.heap.size]? = some o := by
  rw [Below.heap_alloc _ _ _ (by simp)]
  exact (MapKept.heap_alloc w o).1

theorem kept_block {wr w2 : World} {o : Obj} {B bm : Nat} {x : Option Obj} (hgr : (wr.alloc o).drew.grownBy w2 (some bm)) (hB : B < wr.heap.size) (hne : bm ≠ B) (h : wr.heap[B]? = x) : w2.heap[B]? = x := by
  have hs : (wr.alloc o).heap.size = wr.heap.size + 1 := by simp
  have h1 := hgr.block B (by show _ < (wr.alloc o).heap.size; omega) (by intro e; cases e; exact hne rfl)
  exact (h1.trans (Below.heap_alloc wr o B hB)).trans h

theorem kept_size {wr w2 : World} {o : Obj} {bm : Nat} (hgr : (wr.alloc o).drew.grownBy w2 (some bm)) : wr.heap.size < w2.heap.size := by
  have := hgr.size
  simp at this
  omega

set_option maxHeartbeats 400000 in
theorem new_some (gk : Nat) (len : Nat) (z : Nat → Int) (w : World) (hl : len ≤ 4096) (h0 : 0 < len) (hrow : w.rowIs gk 30 len (fun i => .int .u64 (z i))) (hz : ∀ i, i < len → Wf (z i)) :
    Calls Try.prog 13 #[.slice (some ⟨gk, 0, none⟩) len len] w fun e w' => ∃ g, e = .returned (.pointer (some ⟨w.heap.size, 0, none⟩)) ∧
      w'.heap[w.heap.size]? = some (fresh (some (w.heap.size + 1))) ∧ MapAt w' (some (w.heap.size + 1)) len g ∧ Tags w' w.heap.size z len g ∧ Below w.heap.size w w' := by
  have hmm := makeMap_hint
  have hgk := hrow.lt
  go_enter Try.func13, Try.ntmps13
  go_wp2
  clear hmm
  go_loopw [4] (fun i wr => ∃ (k : Nat) (g : Int → Option Addr), k ≤ len ∧ i = .int .i64 k ∧ wr.heap[w.heap.size]? = some (fresh (some (w.heap.size + 1))) ∧ MapAt wr (some (w.heap.size + 1)) k g ∧ Tags wr w.heap.size z k g ∧ Below w.heap.size w wr ∧ w.heap.size + 1 < wr.heap.size) (fun i _ => len - (intOf i).toNat)
  case atStart =>
    have h := start_map w (fresh (some (w.heap.size + 1))) z w.heap.size
    exact ⟨0, fun _ => none, by omega, rfl, start_fresh _ _ _, h.1, h.2, ((Below.refl _ _).alloc (Nat.le_refl _) _).alloc (by simp) _, by simp⟩
  case round =>
    obtain ⟨k, g, hk, rfl, hfr, hmap, htag, hb, hsz⟩ := hrel
    by_cases hlt : k < len
    · obtain ⟨w2, g', hrun, hgr, hmap', htag'⟩ := store_step wr w.heap.size (w.heap.size + 1) k z g (by omega) hsz (by omega) (by omega) (hz k hlt) hmap htag
      have c6 := fresh_c6 hfr
      have ck : wr.cell? ⟨gk, k, none⟩ = some (.int .u64 (z k)) := (hb.cell hgk).trans (hrow.cell hlt)
      have c6' : (wr.alloc (blockOf (z k))).cell? ⟨w.heap.size, 6, none⟩ = some (.map (some (w.heap.size + 1))) := cell_later ((Below.refl _ _).alloc (Nat.le_refl _) _) c6
      have ck' : (wr.alloc (blockOf (z k))).cell? ⟨gk, k, none⟩ = some (.int .u64 (z k)) := cell_later ((Below.refl _ _).alloc (Nat.le_refl _) _) ck
      unfold blockOf at hrun c6' ck'
      have HH : Hid (wr.heap[w.heap.size]? = some (fresh (some (w.heap.size + 1)))) := hfr
      clear hfr
      go_wp2
      go_region
      go_wp2
      go_roundw
      case rel => exact ⟨k + 1, g', by omega, by go_num, kept_block hgr (by omega) (by omega) HH.out, hmap', htag', ((hb.alloc hb.size _).drew).grown hgr (by have := hb.size; simp; omega) (fun j hj => by cases hj; omega), by have := kept_size hgr; omega⟩
      case measure => simp [intOf]; omega
    · go_wp2
      go_ret
      obtain rfl : k = len := by omega
      exact ⟨g, rfl, hfr, hmap, htag, hb⟩
end Go.Proofs.Qxb6000923a.Held
