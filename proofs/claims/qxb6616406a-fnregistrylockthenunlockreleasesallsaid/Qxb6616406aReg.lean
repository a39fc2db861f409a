/-
  The registry of locks in memory, at seat b6616406a's dump: what its blocks hold, and what each step leaves.
-/
import Derived.Test.Qxb6616406aRows
import Derived.Test.Qxb6616406aLocks
import Derived.WalkKit
import Derived.ProofKit
import Derived.WalkSpells
import Derived.WalkSmall
import Derived.Maps.OwnSet
import Derived.Deep.OwnRows
import Derived.Outline
namespace Go.Proofs.Qxb6616406a.Rg
open Go.RowKit Go.Maps
set_option linter.unusedVariables false

/-- A pointer to a whole block. -/
def ptr (k : Nat) : Value := .pointer (some ⟨k, 0, none⟩)

/-- How a pointer in the map reads: nil, or its block's number. -/
def Rp : Value → Option (DataW Unit × List MemPlace)
  | .pointer none => some (.nil, [])
  | .pointer (some a) => if a.off = 0 ∧ a.spot = none then some (.lit (.int .i64 a.block), []) else none
  | _ => none

theorem Rp_nil : Rp (.pointer none) = some (.nil, []) := rfl
theorem Rp_ptr (k : Nat) : Rp (ptr k) = some (.lit (.int .i64 k), []) := by simp [Rp, ptr]

theorem Rp_nil_inv {v : Value} {ps : List MemPlace} (h : Rp v = some (.nil, ps)) : v = .pointer none := by
  unfold Rp at h
  split at h
  · rfl
  · split at h <;> simp at h
  · cases h

theorem Rp_ptr_inv {v : Value} {ps : List MemPlace} {k : Nat} (h : Rp v = some (.lit (.int .i64 (k : Int)), ps)) : v = ptr k := by
  unfold Rp at h
  split at h
  · simp at h
  · rename_i a
    split at h
    · rename_i hc
      simp at h
      obtain ⟨b, o, s⟩ := a
      simp at hc h
      obtain ⟨rfl, rfl⟩ := hc
      have : b = k := by omega
      subst this
      rfl
    · cases h
  · cases h

/-- Which block a key's lock lies in. -/
def look : List (ByteArray × Nat) → ByteArray → Option Nat
  | [], _ => none
  | p :: r, s => if p.1 = s then some p.2 else look r s

theorem look_snoc_same (held : List (ByteArray × Nat)) (s : ByteArray) (k : Nat) (h : look held s = none) : look (held ++ [(s, k)]) s = some k := by
  induction held with
  | nil => simp [look]
  | cons p r ih =>
    simp only [look, List.cons_append] at h ⊢
    split at h
    · cases h
    · rename_i hne; rw [if_neg hne]; exact ih h

theorem look_snoc_other (held : List (ByteArray × Nat)) (s t : ByteArray) (k : Nat) (h : t ≠ s) : look (held ++ [(s, k)]) t = look held t := by
  induction held with
  | nil => simp [look, Ne.symm h]
  | cons p r ih => simp only [look, List.cons_append, ih]

def kl (s : ByteArray) : Lit := .string s.data.toList
theorem kl_inj {s t : ByteArray} (h : kl s = kl t) : s = t := by
  unfold kl at h
  injection h with h
  cases s; cases t
  congr
  exact Array.toList_inj.1 h
theorem kl_key (s : ByteArray) : WideAt.IsKeyLit (kl s) := trivial

def encO : Option Nat → DataW Unit
  | none => .nil
  | some k => .lit (.int .i64 k)

/-- Block M is the map of the held keys. -/
def MapIs (w : World) (M : Nat) (held : List (ByteArray × Nat)) : Prop :=
  ∃ D : DataW Unit, w.ownsMap Try.prog 9 Rp M held.length D ∧ Maps.size D = held.length ∧ (∀ s, D.atKey (kl s) .nil = encO (look held s)) ∧ (∀ s, Maps.has D (kl s) = (look held s).isSome)

theorem retight {w : World} {M n : Nat} {D : DataW Unit} (h : w.ownsMap Try.prog 9 Rp M n D) : w.ownsMap Try.prog 9 Rp M (Maps.size D) D := by
  obtain ⟨es, clock, hb, F, hs, rfl⟩ := h
  exact ⟨es, clock, hb, F, by simp [Maps.size, length_sorted], rfl⟩

theorem law9 : Keyed Try.prog 9 := string_keyed Try.underlying9
theorem keyOf9 {s : ByteArray} (hs : s.size ≤ maxLen) : keyOf Try.prog 9 (.string s) = some (kl s) := by
  exact WideMaps.keyOf_string_mk Try.underlying9 hs
theorem zero65 (w : World) : (zeroValue 65).run Try.prog w = .ok (.pointer none) w := Try.zeroValue65 w

theorem MapIs.look_none {w : World} {M : Nat} {held : List (ByteArray × Nat)} (h : MapIs w M held) {s : ByteArray} (hs : s.size ≤ maxLen) (hn : look held s = none) :
    (Instr.lookup 51 (.map (some M)) (.string s) false).run Try.prog w = .ok (.pointer none) w := by
  obtain ⟨D, hown, _, hat, _⟩ := h
  obtain ⟨v, ps, hrun, hv⟩ := hown.lookup law9 Try.underlying51 (zero65 w) Rp_nil (keyOf9 hs)
  rw [hat s, hn] at hv
  rw [hrun, Rp_nil_inv hv]

theorem MapIs.look_some {w : World} {M k : Nat} {held : List (ByteArray × Nat)} (h : MapIs w M held) {s : ByteArray} (hs : s.size ≤ maxLen) (hn : look held s = some k) :
    (Instr.lookup 51 (.map (some M)) (.string s) false).run Try.prog w = .ok (ptr k) w := by
  obtain ⟨D, hown, _, hat, _⟩ := h
  obtain ⟨v, ps, hrun, hv⟩ := hown.lookup law9 Try.underlying51 (zero65 w) Rp_nil (keyOf9 hs)
  rw [hat s, hn] at hv
  rw [hrun, Rp_ptr_inv hv]

theorem MapIs.store {w : World} {M k : Nat} {held : List (ByteArray × Nat)} (h : MapIs w M held) {s : ByteArray} (hs : s.size ≤ maxLen) (hn : look held s = none) (hl : held.length < 1073741824) :
    ∃ w', (Instr.mapUpdate 51 (.map (some M)) (.string s) (ptr k)).run Try.prog w = .ok () w' ∧ MapIs w' M (held ++ [(s, k)]) ∧ w.mapTurned w' M := by
  obtain ⟨D, hown, hsz, hat, hh⟩ := h
  obtain ⟨w', hrun, hown', ht⟩ := hown.store law9 Try.underlying51 (by unfold maxLen; omega) (keyOf9 hs) (Rp_ptr k)
  have tidy := hown.tidy law9
  have hhs : Maps.has D (kl s) = false := by rw [hh s, hn]; rfl
  have hsz' : Maps.size (D.put (kl s) (.lit (.int .i64 k))) = (held ++ [(s, k)]).length := by
    rw [Maps.size_put tidy, hhs]; simp [hsz]
  refine ⟨w', hrun, ⟨_, by rw [← hsz']; exact retight hown', hsz', fun t => ?_, fun t => ?_⟩, ht⟩
  · by_cases e : t = s
    · subst e; rw [Maps.atKey_put_same hown.isMap (kl_key t), look_snoc_same held t k hn]; rfl
    · rw [Maps.atKey_put_other (fun h => e (kl_inj h)), hat t, look_snoc_other held s t k e]
  · by_cases e : t = s
    · subst e; rw [Maps.has_put_same hown.isMap (kl_key t), look_snoc_same held t k hn]; rfl
    · rw [Maps.has_put_other (fun h => e (kl_inj h)), hh t, look_snoc_other held s t k e]

theorem MapIs.drop {w : World} {M k : Nat} {held : List (ByteArray × Nat)} {s : ByteArray} (h : MapIs w M (held ++ [(s, k)])) (hs : s.size ≤ maxLen) (hn : look held s = none) (ty : TypeId) :
    ∃ w', (Builtin.delete_ #[51, 9] ty #[.map (some M), .string s]).run Try.prog w = .ok (.tuple #[]) w' ∧ MapIs w' M held ∧ w.mapTurned w' M := by
  obtain ⟨D, hown, hsz, hat, hh⟩ := h
  obtain ⟨w', hrun, hown', ht⟩ := hown.drop law9 Try.underlying51 (keyOf9 hs) ty
  have tidy := hown.tidy law9
  have hhs : Maps.has D (kl s) = true := by rw [hh s, look_snoc_same held s k hn]; rfl
  have hsz' : Maps.size (D.del (kl s)) = held.length := by
    have := Maps.size_del (k := kl s) tidy
    rw [hhs, hsz] at this
    simp at this
    omega
  refine ⟨w', hrun, ⟨_, by rw [← hsz']; exact retight hown', hsz', fun t => ?_, fun t => ?_⟩, ht⟩
  · by_cases e : t = s
    · subst e; rw [Maps.atKey_del_same, hn]; rfl
    · rw [Maps.atKey_del_other (fun h => e (kl_inj h)), hat t, look_snoc_other held s t k e]
  · by_cases e : t = s
    · subst e; rw [Maps.has_del_same, hn]; rfl
    · rw [Maps.has_del_other (fun h => e (kl_inj h)), hh t, look_snoc_other held s t k e]

theorem MapIs.len {w : World} {M : Nat} {held : List (ByteArray × Nat)} (h : MapIs w M held) (ty : TypeId) :
    (Builtin.len_ #[51] ty #[.map (some M)]).run Try.prog w = .ok (.int .i64 held.length) w := by
  obtain ⟨D, hown, hsz, _, _⟩ := h
  rw [hown.len Try.underlying51 ty, hsz]

theorem MapIs.of_block {w w' : World} {M : Nat} {held : List (ByteArray × Nat)} (h : MapIs w M held) (e : w'.heap[M]? = w.heap[M]?) : MapIs w' M held := by
  obtain ⟨D, ⟨es, clock, hb, r⟩, r2⟩ := h
  exact ⟨D, ⟨es, clock, e.trans hb, r⟩, r2⟩

theorem MapIs.made (w : World) : MapIs (w.alloc (.map #[] 0)) w.heap.size [] :=
  ⟨_, World.ownsMap_made w Try.prog 9 Rp, rfl, fun s => by rfl, fun s => by rfl⟩

theorem MapIs.isMap {w : World} {M : Nat} {held : List (ByteArray × Nat)} (h : MapIs w M held) : ∃ es c, w.heap[M]? = some (.map es c) := by
  obtain ⟨D, ⟨es, clock, hb, r⟩, r2⟩ := h
  exact ⟨es, clock, hb⟩

/-! ### What may have turned -/
/-- From a to w: the streams stand; of the blocks that were there only those in S may have turned. -/
structure Turn (S : Nat → Prop) (a w : World) : Prop where
  os : w.os = a.os
  tape : w.tape = a.tape
  output : w.output = a.output
  size : a.heap.size ≤ w.heap.size
  block : ∀ b, b < a.heap.size → ¬ S b → w.heap[b]? = a.heap[b]?

theorem Turn.refl (S : Nat → Prop) (a : World) : Turn S a a := ⟨rfl, rfl, rfl, Nat.le_refl _, fun _ _ _ => rfl⟩
theorem Turn.trans {S : Nat → Prop} {a b c : World} (h : Turn S a b) (k : Turn S b c) : Turn S a c :=
  ⟨k.os.trans h.os, k.tape.trans h.tape, k.output.trans h.output, Nat.le_trans h.size k.size, fun i hi hs => (k.block i (Nat.lt_of_lt_of_le hi h.size) hs).trans (h.block i hi hs)⟩
theorem Turn.mono {S S' : Nat → Prop} {a w : World} (h : Turn S a w) (hs : ∀ b, b < a.heap.size → S b → S' b) : Turn S' a w :=
  ⟨h.os, h.tape, h.output, h.size, fun b hb hn => h.block b hb (fun e => hn (hs b hb e))⟩
theorem Turn.setCell {S : Nat → Prop} {a w : World} (h : Turn S a w) {p : Addr} (hp : a.heap.size ≤ p.block ∨ S p.block) (u : Value) : Turn S a (w.setCell p u) :=
  ⟨h.os, h.tape, h.output, by simpa using h.size, fun b hb hs => by
    rw [Below.heap_setCell w p u b (fun e => by rcases hp with hp | hp; omega; exact hs (e ▸ hp))]
    exact h.block b hb hs⟩
theorem Turn.alloc {S : Nat → Prop} {a w : World} (h : Turn S a w) (o : Obj) : Turn S a (w.alloc o) :=
  ⟨h.os, h.tape, h.output, by have := h.size; simp; omega, fun b hb hs => by
    rw [Below.heap_alloc w o b (by have := h.size; omega)]
    exact h.block b hb hs⟩
theorem Turn.drew {S : Nat → Prop} {a w : World} (h : Turn S a w) : Turn S a w.drew := ⟨h.os, h.tape, h.output, h.size, h.block⟩
theorem Turn.grown {S : Nat → Prop} {a w w' : World} {row : Option Nat} (h : Turn S a w) (hg : w.grownBy w' row) (hr : ∀ k, row = some k → a.heap.size ≤ k ∨ S k) : Turn S a w' :=
  ⟨hg.os.trans h.os, hg.tape.trans h.tape, hg.output.trans h.output, Nat.le_trans h.size hg.size, fun b hb hs => by
    rw [hg.block b (by have := h.size; omega) (fun e => by rcases hr b e.symm with hk | hk; omega; exact hs hk)]
    exact h.block b hb hs⟩
theorem Turn.below {S : Nat → Prop} {a w : World} (h : Turn S a w) {B : Nat} (hB : B ≤ a.heap.size) (hs : ∀ b, S b → B ≤ b) : Below B a w :=
  ⟨h.os, h.tape, h.output, h.size, fun b hb => h.block b (by omega) (fun e => by have := hs b e; omega)⟩
theorem Turn.of_below {a w : World} {B : Nat} (h : Below B a w) (S : Nat → Prop) (hS : ∀ b, b < a.heap.size → ¬ S b → b < B) : Turn S a w :=
  ⟨h.os, h.tape, h.output, h.size, fun b hb hs => h.block b (hS b hb hs)⟩

/-! ### A keyLock, and the registry -/
/-- Block k is a keyLock: the mutex's state s, the users u. -/
def KL (w : World) (k : Nat) (s u : Int) : Prop := w.heap[k]? = some (.cells #[.int .i32 s, .int .u32 0, .int .i64 u] 67 (0, 0))

theorem KL.of_block {w w' : World} {k : Nat} {s u : Int} (h : KL w k s u) (e : w'.heap[k]? = w.heap[k]?) : KL w' k s u := e.trans h
theorem KL.c0 {w : World} {k : Nat} {s u : Int} (h : KL w k s u) : w.cell? ⟨k, 0, none⟩ = some (.int .i32 s) := by unfold KL at h; simp [World.cell?, h]
theorem KL.c2 {w : World} {k : Nat} {s u : Int} (h : KL w k s u) : w.cell? ⟨k, 2, none⟩ = some (.int .i64 u) := by unfold KL at h; simp [World.cell?, h]
theorem KL.fz {w : World} {k : Nat} {s u : Int} (h : KL w k s u) (i : Nat) : w.frozen? ⟨k, i, none⟩ = false := by unfold KL at h; simp [World.frozen?, h]
theorem KL.lt {w : World} {k : Nat} {s u : Int} (h : KL w k s u) : k < w.heap.size := (Array.getElem?_eq_some_iff.1 h).1
theorem KL.set0 {w : World} {k : Nat} {s u : Int} (h : KL w k s u) (s' : Int) : KL (w.setCell ⟨k, 0, none⟩ (.int .i32 s')) k s' u := by
  unfold KL at h ⊢; simp [World.setCell, Array.getElem?_modify, h]
theorem KL.set2 {w : World} {k : Nat} {s u : Int} (h : KL w k s u) (u' : Int) : KL (w.setCell ⟨k, 2, none⟩ (.int .i64 u')) k s u' := by
  unfold KL at h ⊢; simp [World.setCell, Array.getElem?_modify, h]
theorem KL.other {w : World} {k : Nat} {s u : Int} (h : KL w k s u) {p : Addr} (hp : k ≠ p.block) (v : Value) : KL (w.setCell p v) k s u :=
  h.of_block (Below.heap_setCell _ _ _ _ hp)
theorem KL.alloc {w : World} {k : Nat} {s u : Int} (h : KL w k s u) (o : Obj) : KL (w.alloc o) k s u := h.of_block (Below.heap_alloc _ _ _ h.lt)
theorem KL.made (w : World) : KL (w.alloc (.cells #[.int .i32 0, .int .u32 0, .int .i64 0] 67)) w.heap.size 0 0 := heap_alloc_new w _

/-- Block R is the registry: the mutex's state s, the map, the free list's value. -/
structure RG (w : World) (R : Nat) (s : Int) (mref : Option Nat) (fv : Value) : Prop where
  blk : ∃ c, w.heap[R]? = some (.cells c 63 (0, 0)) ∧ c.size = 12
  c1 : w.cell? ⟨R, 1, none⟩ = some (.int .i32 s)
  c3 : w.cell? ⟨R, 3, none⟩ = some (.map mref)
  c4 : w.cell? ⟨R, 4, none⟩ = some fv

theorem RG.fz {w : World} {R : Nat} {s : Int} {mref : Option Nat} {fv : Value} (h : RG w R s mref fv) (i : Nat) : w.frozen? ⟨R, i, none⟩ = false := by
  obtain ⟨c, hc, _⟩ := h.blk; simp [World.frozen?, hc]
theorem RG.lt {w : World} {R : Nat} {s : Int} {mref : Option Nat} {fv : Value} (h : RG w R s mref fv) : R < w.heap.size := by
  obtain ⟨c, hc, _⟩ := h.blk; exact (Array.getElem?_eq_some_iff.1 hc).1
theorem RG.of_block {w w' : World} {R : Nat} {s : Int} {mref : Option Nat} {fv : Value} (h : RG w R s mref fv) (e : w'.heap[R]? = w.heap[R]?) : RG w' R s mref fv := by
  obtain ⟨⟨c, hc, hz⟩, h1, h3, h4⟩ := h
  exact ⟨⟨c, e.trans hc, hz⟩, (World.cell?_of_block (w := w) e).trans h1, (World.cell?_of_block (w := w) e).trans h3, (World.cell?_of_block (w := w) e).trans h4⟩
theorem RG.other {w : World} {R : Nat} {s : Int} {mref : Option Nat} {fv : Value} (h : RG w R s mref fv) {p : Addr} (hp : R ≠ p.block) (v : Value) : RG (w.setCell p v) R s mref fv :=
  h.of_block (Below.heap_setCell _ _ _ _ hp)
theorem RG.alloc {w : World} {R : Nat} {s : Int} {mref : Option Nat} {fv : Value} (h : RG w R s mref fv) (o : Obj) : RG (w.alloc o) R s mref fv := h.of_block (Below.heap_alloc _ _ _ h.lt)
theorem RG.blkSet {w : World} {R : Nat} {s : Int} {mref : Option Nat} {fv : Value} (h : RG w R s mref fv) (i : Nat) (v : Value) : ∃ c, (w.setCell ⟨R, i, none⟩ v).heap[R]? = some (.cells c 63 (0, 0)) ∧ c.size = 12 := by
  obtain ⟨c, hc, hz⟩ := h.blk
  exact ⟨c.setIfInBounds i v, by simp [World.setCell, Array.getElem?_modify, hc], by simpa using hz⟩
theorem RG.set1 {w : World} {R : Nat} {s : Int} {mref : Option Nat} {fv : Value} (h : RG w R s mref fv) (s' : Int) : RG (w.setCell ⟨R, 1, none⟩ (.int .i32 s')) R s' mref fv :=
  ⟨h.blkSet 1 _, World.cell?_setCell_same w ⟨R, 1, none⟩ _ h.c1, (World.cell?_setCell_other w ⟨R, 1, none⟩ ⟨R, 3, none⟩ _ (by simp)).trans h.c3, (World.cell?_setCell_other w ⟨R, 1, none⟩ ⟨R, 4, none⟩ _ (by simp)).trans h.c4⟩
theorem RG.set3 {w : World} {R : Nat} {s : Int} {mref : Option Nat} {fv : Value} (h : RG w R s mref fv) (m' : Option Nat) : RG (w.setCell ⟨R, 3, none⟩ (.map m')) R s m' fv :=
  ⟨h.blkSet 3 _, (World.cell?_setCell_other w ⟨R, 3, none⟩ ⟨R, 1, none⟩ _ (by simp)).trans h.c1, World.cell?_setCell_same w ⟨R, 3, none⟩ _ h.c3, (World.cell?_setCell_other w ⟨R, 3, none⟩ ⟨R, 4, none⟩ _ (by simp)).trans h.c4⟩
theorem RG.set4 {w : World} {R : Nat} {s : Int} {mref : Option Nat} {fv : Value} (h : RG w R s mref fv) (fv' : Value) : RG (w.setCell ⟨R, 4, none⟩ fv') R s mref fv' :=
  ⟨h.blkSet 4 _, (World.cell?_setCell_other w ⟨R, 4, none⟩ ⟨R, 1, none⟩ _ (by simp)).trans h.c1, (World.cell?_setCell_other w ⟨R, 4, none⟩ ⟨R, 3, none⟩ _ (by simp)).trans h.c3, World.cell?_setCell_same w ⟨R, 4, none⟩ _ h.c4⟩

/-- A keyLock's block is none of the others'. -/
theorem KL.ne_reg {w : World} {k R : Nat} {s u s' : Int} {mref : Option Nat} {fv : Value} (h : KL w k s u) (g : RG w R s' mref fv) : k ≠ R := by
  rintro rfl; obtain ⟨c, hc, _⟩ := g.blk; unfold KL at h; rw [h] at hc; simp at hc
theorem KL.ne_map {w : World} {k M : Nat} {s u : Int} {held : List (ByteArray × Nat)} (h : KL w k s u) (g : MapIs w M held) : k ≠ M := by
  rintro rfl; obtain ⟨es, c, hc⟩ := g.isMap; unfold KL at h; rw [h] at hc; simp at hc
theorem RG.ne_map {w : World} {R M : Nat} {s : Int} {mref : Option Nat} {fv : Value} {held : List (ByteArray × Nat)} (h : RG w R s mref fv) (g : MapIs w M held) : R ≠ M := by
  rintro rfl; obtain ⟨es, c, hc⟩ := g.isMap; obtain ⟨c', h', _⟩ := h.blk; rw [h'] at hc; simp at hc

/-- The free list's row is none of the others'. -/
theorem row_ne {w : World} {F n g : Nat} {fv : Value} {xs : List Value} (h : w.ownsRow F 65 1 fv n xs) (hg : fv.ownBlock = some g) : (∀ k s u, KL w k s u → g ≠ k) ∧ (∀ R s mref fv', RG w R s mref fv' → g ≠ R) ∧ (∀ M held, MapIs w M held → g ≠ M) := by
  obtain ⟨_, h2 | ⟨g', cap, cur, hv, _, hh, _⟩⟩ := h
  · rw [h2.1] at hg; simp [Value.ownBlock] at hg
  · rw [hv] at hg; simp [Value.ownBlock] at hg; subst hg
    refine ⟨fun k s u hk => ?_, fun R s mref fv' hR => ?_, fun M held hM => ?_⟩
    · rintro rfl; unfold KL at hk; rw [hk] at hh; simp at hh
    · rintro rfl; obtain ⟨c, hc, _⟩ := hR.blk; rw [hc] at hh; simp at hh
    · rintro rfl; obtain ⟨es, c, hc⟩ := hM.isMap; rw [hc] at hh; simp at hh

theorem row_of_block {w w' : World} {F n : Nat} {fv : Value} {xs : List Value} (h : w.ownsRow F 65 1 fv n xs) (e : ∀ g, fv.ownBlock = some g → w'.heap[g]? = w.heap[g]?) : w'.ownsRow F 65 1 fv n xs := by
  obtain ⟨h1, h2 | ⟨g, cap, cur, hv, hF, hh, r⟩⟩ := h
  · exact ⟨h1, .inl h2⟩
  · exact ⟨h1, .inr ⟨g, cap, cur, hv, hF, by rw [e g (by rw [hv]; rfl)]; exact hh, r⟩⟩

/-- THE REGISTRY: the mutex free; the held keys with their locks; the free locks. B: all its blocks lie from there on; F: the free list's row from there on. -/
structure St (w : World) (B F R : Nat) (mref : Option Nat) (fv : Value) (held : List (ByteArray × Nat)) (free : List Nat) : Prop where
  rg : RG w R 0 mref fv
  rB : B ≤ R
  mp : (mref = none ∧ held = [] ∧ free = []) ∨ ∃ M, mref = some M ∧ B ≤ M ∧ MapIs w M held
  fr : w.ownsRow F 65 1 fv free.length (free.map ptr)
  hk : ∀ p ∈ held, KL w p.2 1 1 ∧ B ≤ p.2
  fk : ∀ k ∈ free, KL w k 0 0 ∧ B ≤ k
  nd : (held.map (·.2) ++ free).Nodup
end Go.Proofs.Qxb6616406a.Rg
