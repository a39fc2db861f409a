/-
  The walk of (*registry).lock at seat b6616406a's dump.
-/
import Derived.Test.Qxb6616406aUnlockWalk
import Derived.Deep.RegionWith
namespace Go.Proofs.Qxb6616406a.Rg
open Go.RowKit Go.Maps
open Go.MuLone
set_option linter.unusedVariables false

theorem St.of_heap {w w' : World} {B F R : Nat} {mref : Option Nat} {fv : Value} {held : List (ByteArray × Nat)} {free : List Nat} (st : St w B F R mref fv held free) (e : w'.heap = w.heap) : St w' B F R mref fv held free := by
  have eb : ∀ b : Nat, w'.heap[b]? = w.heap[b]? := fun b => by rw [e]
  refine ⟨st.rg.of_block (eb _), st.rB, ?_, row_of_block st.fr (fun g _ => eb g), fun p hp => ⟨(st.hk p hp).1.of_block (eb _), (st.hk p hp).2⟩, fun k hk => ⟨(st.fk k hk).1.of_block (eb _), (st.fk k hk).2⟩, st.nd⟩
  rcases st.mp with h | ⟨M, h1, h2, h3⟩
  · exact .inl h
  · exact .inr ⟨M, h1, h2, h3.of_block (eb _)⟩
theorem St.drew {w : World} {B F R : Nat} {mref : Option Nat} {fv : Value} {held : List (ByteArray × Nat)} {free : List Nat} (st : St w B F R mref fv held free) : St w.drew B F R mref fv held free := st.of_heap rfl

/-- A block that is none of the registry's. -/
def Off (w : World) (b : Nat) : Prop := ∃ c t f, w.heap[b]? = some (.cells c t f) ∧ t ≠ 63 ∧ t ≠ 67

/-- What the registry's steps may turn. -/
def Mine (R : Nat) (mref : Option Nat) (free : List Nat) (b : Nat) : Prop := b = R ∨ mref = some b ∨ b ∈ free

theorem St.off {w : World} {B F R : Nat} {mref : Option Nat} {fv : Value} {held : List (ByteArray × Nat)} {free : List Nat} (st : St w B F R mref fv held free) {b : Nat} (h : Off w b) : ¬ (b = R ∨ mref = some b ∨ b ∈ free) := by
  obtain ⟨c, t, f, hb, h63, h67⟩ := h
  rintro (e | e | e)
  · subst e; obtain ⟨c', hc, _⟩ := st.rg.blk; rw [hc] at hb; simp at hb; exact h63 hb.2.1.symm
  · rcases st.mp with ⟨h, _⟩ | ⟨M, h, _, hM⟩
    · rw [h] at e; cases e
    · rw [h] at e; cases e; obtain ⟨es, cl, hc⟩ := hM.isMap; rw [hc] at hb; simp at hb
  · have hk := (st.fk b e).1; unfold KL at hk; rw [hk] at hb; simp at hb; exact h67 hb.2.1.symm

theorem look_zip_none : ∀ (xs : List ByteArray) (bs : List Nat) (s : ByteArray), s ∉ xs → look (xs.zip bs) s = none
  | [], _, _, _ => rfl
  | _ :: _, [], _, _ => rfl
  | a :: xs, b :: bs, s, h => by
    simp only [List.zip_cons_cons, look]
    rw [if_neg (fun e => h (by simp [e]))]
    exact look_zip_none xs bs s (fun hm => h (by simp [hm]))

theorem info65' : (Try.prog.info? 65).map (fun i => (i.zero, i.size, i.bytes)) = some (some (.pointer none), 1, 8) := info65

/-- The keys' row of strings, where there are any: it begins at a block's head. -/
def KR (w : World) (a : Option Addr) (keys : List ByteArray) : Prop :=
  keys = [] ∨ ∃ kb, a = some ⟨kb, 0, none⟩ ∧ w.rowIs kb 9 keys.length (fun j => .string (keys[j]?.getD ⟨#[]⟩))

theorem KR.of {w w' : World} {a : Option Addr} {keys : List ByteArray} (h : KR w a keys) (e : ∀ kb, kb < w.heap.size → Off w kb → (∃ c, w.heap[kb]? = some (.cells c 9 (0, 0))) → w'.heap[kb]? = w.heap[kb]?) : KR w' a keys := by
  rcases h with h | ⟨kb, h1, h2⟩
  · exact .inl h
  · refine .inr ⟨kb, h1, h2.of_block ?_⟩
    have hlt := h2.lt
    obtain ⟨c', hc, _⟩ := h2
    exact e kb hlt ⟨c', 9, _, hc, by decide, by decide⟩ ⟨c', hc⟩

/-- What holds when k keys have been locked. -/
structure LInv (w : World) (B F R : Nat) (mref : Option Nat) (fv : Value) (free : List Nat) (keys : List ByteArray) (a : Option Addr) (kc k : Nat) (wr : World) (ks : List Nat) (mref' : Option Nat) (fv' : Value) (free' : List Nat) : Prop where
  len : ks.length = k
  st : St wr B F R mref' fv' ((keys.take k).zip ks) free'
  fl : free'.length = free.length - k
  ff : free = [] → fv' = fv
  sub : ∀ b, Mine R mref' free' b → Mine R mref free b ∨ w.heap.size ≤ b
  ow : fv'.ownBlock = fv.ownBlock
  tn : Turn (Mine R mref free) w wr
  b0 : wr.heap[w.heap.size]? = some (.cells #[.pointer (some ⟨R, 0, none⟩)] 29 (0, 0))
  b1 : wr.heap[w.heap.size + 1]? = some (.cells #[.slice a keys.length kc] 25 (0, 0))
  b3 : wr.heap[w.heap.size + 1 + 1 + 1]? = some (.cells #[.slice (some ⟨w.heap.size + 1 + 1, 0, none⟩) keys.length keys.length] 52 (0, 0))
  row : wr.rowIs (w.heap.size + 1 + 1) 65 keys.length (fun j => if j < k then .pointer (some ⟨ks[j]?.getD 0, 0, none⟩) else .pointer none)
  kr : KR wr a keys

theorem cell_of_block {w : World} {b : Nat} {v : Value} {t : TypeId} (h : w.heap[b]? = some (.cells #[v] t (0, 0))) : w.cell? ⟨b, 0, none⟩ = some v := by simp [World.cell?, h]

/-- A store into a block that is none of the registry's, nor the free list's row. -/
theorem St.store_off {w : World} {B F R : Nat} {mref : Option Nat} {fv : Value} {held : List (ByteArray × Nat)} {free : List Nat} (st : St w B F R mref fv held free) {p : Addr} (h : Off w p.block) (hg : fv.ownBlock ≠ some p.block) (v : Value) : St (w.setCell p v) B F R mref fv held free := by
  obtain ⟨c, t, f, hb, h63, h67⟩ := h
  have hkl : ∀ j s u, KL w j s u → j ≠ p.block := by
    intro j s u hj e; unfold KL at hj; rw [e, hb] at hj; simp at hj; exact h67 hj.2.1
  refine ⟨st.rg.other (fun e => ?_) v, st.rB, ?_, row_of_block st.fr (fun g hgg => Below.heap_setCell _ _ _ _ (fun e => hg (e ▸ hgg))), fun q hq => ⟨(st.hk q hq).1.other (hkl _ _ _ (st.hk q hq).1) v, (st.hk q hq).2⟩, fun k hk => ⟨(st.fk k hk).1.other (hkl _ _ _ (st.fk k hk).1) v, (st.fk k hk).2⟩, st.nd⟩
  · obtain ⟨c', hc, _⟩ := st.rg.blk; rw [e, hb] at hc; simp at hc; exact h63 hc.2.1
  · rcases st.mp with h | ⟨M, h1, h2, h3⟩
    · exact .inl h
    · refine .inr ⟨M, h1, h2, h3.of_block (Below.heap_setCell _ _ _ _ (fun e => ?_))⟩
      obtain ⟨es, cl, hc⟩ := h3.isMap; rw [e, hb] at hc; simp at hc

/-- One round, behind the call and the store. -/
theorem LInv.step {w : World} {B F R : Nat} {mref : Option Nat} {fv : Value} {free : List Nat} {keys : List ByteArray} {a : Option Addr} {kc k : Nat} {wr w2 : World} {ks : List Nat} {mref' mref2 : Option Nat} {fv' fv2 : Value} {free' free2 : List Nat} {key : ByteArray} {j : Nat}
    (I : LInv w B F R mref fv free keys a kc k wr ks mref' fv' free') (hB : B ≤ w.heap.size) (hfw : ∀ g, fv.ownBlock = some g → g < w.heap.size) (hk : k < keys.length) (hkey : keys[k]? = some key)
    (st2 : St w2 B F R mref2 fv2 ((keys.take k).zip ks ++ [(key, j)]) free2) (hf : (free' = [] ∧ free2 = [] ∧ fv2 = fv') ∨ free' = free2 ++ [j]) (ho : fv2.ownBlock = fv'.ownBlock)
    (T : Turn (fun b => b = R ∨ mref' = some b ∨ b ∈ free') wr.drew w2) (hm2 : ∀ b, mref2 = some b → mref' = some b ∨ wr.heap.size ≤ b) :
    LInv w B F R mref fv free keys a kc (k + 1) (w2.setCell ⟨w.heap.size + 1 + 1, k, none⟩ (.pointer (some ⟨j, 0, none⟩))) (ks ++ [j]) mref2 fv2 free2 := by
  have hT : ∀ b, Off wr b → b < wr.heap.size → w2.heap[b]? = wr.heap[b]? := fun b hb hlt => T.block b hlt (I.st.off hb)
  have o0 : Off wr w.heap.size := ⟨_, _, _, I.b0, by decide, by decide⟩
  have o1 : Off wr (w.heap.size + 1) := ⟨_, _, _, I.b1, by decide, by decide⟩
  have o3 : Off wr (w.heap.size + 1 + 1 + 1) := ⟨_, _, _, I.b3, by decide, by decide⟩
  have lt3 : w.heap.size + 1 + 1 + 1 < wr.heap.size := (Array.getElem?_eq_some_iff.1 I.b3).1
  have o2 : Off wr (w.heap.size + 1 + 1) := by obtain ⟨c, hc, _⟩ := I.row; exact ⟨_, _, _, hc, by decide, by decide⟩
  have e2 := hT _ o2 (by omega)
  have o2' : Off w2 (w.heap.size + 1 + 1) := by obtain ⟨c, t, f, hc, r⟩ := o2; exact ⟨c, t, f, e2.trans hc, r⟩
  have hgT : fv2.ownBlock ≠ some (w.heap.size + 1 + 1) := by
    rw [ho, I.ow]; intro e; have := hfw _ e; omega
  have ez : (keys.take (k + 1)).zip (ks ++ [j]) = (keys.take k).zip ks ++ [(key, j)] := by
    have hk' : keys[k] = key := by have := List.getElem?_eq_getElem hk; rw [this] at hkey; exact Option.some.inj hkey
    rw [List.take_succ_eq_append_getElem hk, hk', List.zip_append (by rw [I.len]; simp; omega)]
    rfl
  have hset : ∀ b, b ≠ w.heap.size + 1 + 1 → (w2.setCell ⟨w.heap.size + 1 + 1, k, none⟩ (.pointer (some ⟨j, 0, none⟩))).heap[b]? = w2.heap[b]? := fun b hb => Below.heap_setCell _ _ _ _ (by exact hb)
  refine ⟨by simp [I.len], by rw [ez]; exact st2.store_off o2' hgT _, ?_, ?_, ?_, ho.trans I.ow, ?_, ?_, ?_, ?_, ?_, ?_⟩
  · rcases hf with ⟨h1, h2, _⟩ | h
    · have := I.fl; rw [h1] at this; rw [h2]; simp at this ⊢; omega
    · have := I.fl; rw [h] at this; simp at this; omega
  · intro h0
    rcases hf with ⟨_, _, h3⟩ | h
    · exact h3.trans (I.ff h0)
    · have := I.fl; rw [h, h0] at this; simp at this
  · rintro b (e | e | e)
    · exact I.sub b (.inl e)
    · rcases hm2 b e with h | h
      · exact I.sub b (.inr (.inl h))
      · exact .inr (by have := I.tn.size; omega)
    · rcases hf with ⟨_, h2, _⟩ | h
      · rw [h2] at e; cases e
      · exact I.sub b (.inr (.inr (by rw [h]; simp [e])))
  · have T1 : Turn (Mine R mref free) w w2 := ⟨T.os.trans I.tn.os, T.tape.trans I.tn.tape, T.output.trans I.tn.output, Nat.le_trans I.tn.size T.size, fun b hb hn => by
      rw [T.block b (by have := I.tn.size; simp; omega) (fun h => by rcases I.sub b h with h | h; exact hn h; omega)]
      exact I.tn.block b hb hn⟩
    exact T1.setCell (p := ⟨w.heap.size + 1 + 1, k, none⟩) (.inl (by show w.heap.size ≤ w.heap.size + 1 + 1; omega)) _
  · rw [hset _ (by omega), hT _ o0 (by omega)]; exact I.b0
  · rw [hset _ (by omega), hT _ o1 (by omega)]; exact I.b1
  · rw [hset _ (by omega), hT _ o3 lt3]; exact I.b3
  · refine ((I.row.of_block e2).set k _).congr (fun i hi => ?_)
    by_cases e : i = k
    · subst e
      rw [if_pos rfl, if_pos (by omega), List.getElem?_append_right (by rw [I.len]; omega), I.len]
      simp
    · rw [if_neg e]
      by_cases e2 : i < k
      · rw [if_pos e2, if_pos (by omega), List.getElem?_append_left (by rw [I.len]; exact e2)]
      · rw [if_neg e2, if_neg (by omega)]
  · refine I.kr.of (fun kb hlt ok h9 => (hset kb ?_).trans (hT _ ok hlt))
    rintro rfl
    obtain ⟨c, hc, _⟩ := I.row; obtain ⟨c', hc'⟩ := h9; rw [hc] at hc'; simp at hc'
/-- What registry.lock leaves. -/
structure Locked (w : World) (B F R : Nat) (mref : Option Nat) (fv : Value) (free : List Nat) (keys : List ByteArray) (a : Option Addr) (kc : Nat) (w' : World) (ks : List Nat) (mref' : Option Nat) (fv' : Value) (free' : List Nat) : Prop where
  len : ks.length = keys.length
  st : St w' B F R mref' fv' (keys.zip ks) free'
  fl : free'.length = free.length - keys.length
  ff : free = [] → fv' = fv
  tn : Turn (Mine R mref free) w w'
  b0 : w'.heap[w.heap.size]? = some (.cells #[.pointer (some ⟨R, 0, none⟩)] 29 (0, 0))
  b1 : w'.heap[w.heap.size + 1]? = some (.cells #[.slice a keys.length kc] 25 (0, 0))
  b3 : w'.heap[w.heap.size + 1 + 1 + 1]? = some (.cells #[.slice (some ⟨w.heap.size + 1 + 1, 0, none⟩) keys.length keys.length] 52 (0, 0))
  row : w'.rowIs (w.heap.size + 1 + 1) 65 keys.length (fun j => .pointer (some ⟨ks[j]?.getD 0, 0, none⟩))
  kr : KR w' a keys

/-- What the walk wants of the world behind the call. -/
theorem LInv.after {w : World} {B F R : Nat} {mref : Option Nat} {fv : Value} {free : List Nat} {keys : List ByteArray} {a : Option Addr} {kc k : Nat} {wr w2 : World} {ks : List Nat} {mref' : Option Nat} {fv' : Value} {free' : List Nat}
    (I : LInv w B F R mref fv free keys a kc k wr ks mref' fv' free') (hk : k < keys.length) (T : Turn (fun b => b = R ∨ mref' = some b ∨ b ∈ free') wr.drew w2) :
    w2.cell? ⟨w.heap.size + 1 + 1 + 1, 0, none⟩ = some (.slice (some ⟨w.heap.size + 1 + 1, 0, none⟩) keys.length keys.length) ∧ w2.cell? ⟨w.heap.size + 1 + 1, k, none⟩ = some (.pointer none) ∧ w2.frozen? ⟨w.heap.size + 1 + 1, k, none⟩ = false := by
  have hT : ∀ b, Off wr b → b < wr.heap.size → w2.heap[b]? = wr.heap[b]? := fun b hb hlt => T.block b hlt (I.st.off hb)
  have o3 : Off wr (w.heap.size + 1 + 1 + 1) := ⟨_, _, _, I.b3, by decide, by decide⟩
  have lt3 : w.heap.size + 1 + 1 + 1 < wr.heap.size := (Array.getElem?_eq_some_iff.1 I.b3).1
  have o2 : Off wr (w.heap.size + 1 + 1) := by obtain ⟨c, hc, _⟩ := I.row; exact ⟨_, _, _, hc, by decide, by decide⟩
  have r2 := I.row.of_block (hT _ o2 (by omega))
  exact ⟨cell_of_block ((hT _ o3 lt3).trans I.b3), by rw [r2.cell hk, if_neg (by omega)], r2.frozen k⟩

set_option maxRecDepth 40000 in
set_option maxHeartbeats 4000000 in
theorem reglock (B F R : Nat) (mref : Option Nat) (fv : Value) (free : List Nat) (keys : List ByteArray) (a : Option Addr) (kc : Nat) (w : World) (st : St w B F R mref fv [] free) (hB : B ≤ w.heap.size) (hnd : keys.Nodup) (hks : ∀ s ∈ keys, s.size ≤ maxLen) (hkn : keys.length ≤ 1048576)
    (hkeys : KR w a keys) :
    Calls Try.prog 19 #[.pointer (some ⟨R, 0, none⟩), .slice a keys.length kc] w fun e w' => e = .returned (.func (.func 24) #[] #[.pointer (some ⟨w.heap.size + 1, 0, none⟩), .pointer (some ⟨w.heap.size, 0, none⟩), .pointer (some ⟨w.heap.size + 1 + 1 + 1, 0, none⟩)]) ∧
      ∃ ks mref' fv' free', Locked w B F R mref fv free keys a kc w' ks mref' fv' free' := by
  have km := fun w => run_make_row' (P := Try.prog) 52 65 (.pointer none) 8 Try.underlying52 info65 rfl .i64 .i64 keys.length (by omega) (by omega) w
  have hnI : (keys.length : Int) ≤ 1048576 := by omega
  have hfw : ∀ g, fv.ownBlock = some g → g < w.heap.size := fun g hg => row_lt st.fr hg
  have T0 : Turn (Mine R mref free) w ((((w.alloc (.cells #[.pointer (some ⟨R, 0, none⟩)] 29)).alloc (.cells #[.slice a keys.length kc] 25)).alloc (.cells (madeCells #[.pointer none] keys.length) 65)).alloc (.cells #[.slice (some ⟨w.heap.size + 1 + 1, 0, none⟩) keys.length keys.length] 52)) :=
    ((((Turn.refl _ w).alloc _).alloc _).alloc _).alloc _
  have I0 : LInv w B F R mref fv free keys a kc 0 ((((w.alloc (.cells #[.pointer (some ⟨R, 0, none⟩)] 29)).alloc (.cells #[.slice a keys.length kc] 25)).alloc (.cells (madeCells #[.pointer none] keys.length) 65)).alloc (.cells #[.slice (some ⟨w.heap.size + 1 + 1, 0, none⟩) keys.length keys.length] 52)) [] mref fv free := by
    have hold : ∀ b, b < w.heap.size → ((((w.alloc (.cells #[.pointer (some ⟨R, 0, none⟩)] 29)).alloc (.cells #[.slice a keys.length kc] 25)).alloc (.cells (madeCells #[.pointer none] keys.length) 65)).alloc (.cells #[.slice (some ⟨w.heap.size + 1 + 1, 0, none⟩) keys.length keys.length] 52)).heap[b]? = w.heap[b]? := by
      intro b hb
      rw [Below.heap_alloc _ _ _ (by simp; omega), Below.heap_alloc _ _ _ (by simp; omega), Below.heap_alloc _ _ _ (by simp; omega), Below.heap_alloc _ _ _ hb]
    refine ⟨rfl, ?_, rfl, fun _ => rfl, fun b hb => .inl hb, rfl, T0, ?_, ?_, ?_, ?_, hkeys.of (fun kb hlt _ _ => hold kb hlt)⟩
    · simp only [List.take_zero, List.zip_nil_left]
      refine ⟨st.rg.of_block (hold _ st.rg.lt), st.rB, ?_, row_of_block st.fr (fun g hg => hold g (row_lt st.fr hg)), fun p hp => (by cases hp), fun k hk => ⟨(st.fk k hk).1.of_block (hold _ (st.fk k hk).1.lt), (st.fk k hk).2⟩, st.nd⟩
      rcases st.mp with h | ⟨M, h1, h2, h3⟩
      · exact .inl h
      · exact .inr ⟨M, h1, h2, h3.of_block (hold _ (by obtain ⟨es, cl, hb⟩ := h3.isMap; exact (Array.getElem?_eq_some_iff.1 hb).1))⟩
    · rw [Below.heap_alloc _ _ _ (by simp only [World.size_alloc]; omega), Below.heap_alloc _ _ _ (by simp only [World.size_alloc]; omega), Below.heap_alloc _ _ _ (by simp only [World.size_alloc]; omega)]; exact heap_alloc_new w _
    · rw [Below.heap_alloc _ _ _ (by simp only [World.size_alloc]; omega), Below.heap_alloc _ _ _ (by simp only [World.size_alloc]; omega)]
      have := heap_alloc_new (w.alloc (.cells #[.pointer (some ⟨R, 0, none⟩)] 29)) (.cells #[.slice a keys.length kc] 25)
      simpa using this
    · have := heap_alloc_new (((w.alloc (.cells #[.pointer (some ⟨R, 0, none⟩)] 29)).alloc (.cells #[.slice a keys.length kc] 25)).alloc (.cells (madeCells #[.pointer none] keys.length) 65)) (.cells #[.slice (some ⟨w.heap.size + 1 + 1, 0, none⟩) keys.length keys.length] 52)
      simp only [World.size_alloc] at this
      exact this
    · have := World.rowIs_made ((w.alloc (.cells #[.pointer (some ⟨R, 0, none⟩)] 29)).alloc (.cells #[.slice a keys.length kc] 25)) (.pointer none) keys.length 65
      simp only [World.size_alloc] at this
      exact (this.alloc _).congr (fun i _ => by simp)
  have HI0 : Hid _ := I0
  clear I0 T0
  go_enter Try.func19, Try.ntmps19
  go_wp2
  clear km
  go_loopw [13] (fun i wr => ∃ (k : Nat) (ks : List Nat) (mref' : Option Nat) (fv' : Value) (free' : List Nat), k ≤ keys.length ∧ i = .int .i64 k ∧ Hid (LInv w B F R mref fv free keys a kc k wr ks mref' fv' free')) (fun i _ => keys.length - (intOf i).toNat)
  case atStart => exact ⟨0, [], mref, fv, free, Nat.zero_le _, rfl, HI0⟩
  case round =>
    obtain ⟨k, ks, mref', fv', free', hk, rfl, HI⟩ := hrel
    clear HI0
    by_cases hlt : k < keys.length
    · have hltI : (k : Int) < (keys.length : Int) := by omega
      obtain ⟨key, hkey⟩ : ∃ key, keys[k]? = some key := ⟨_, List.getElem?_eq_getElem hlt⟩
      obtain ⟨kb, ha, hrow⟩ : ∃ kb, a = some ⟨kb, 0, none⟩ ∧ wr.rowIs kb 9 keys.length (fun j => .string (keys[j]?.getD ⟨#[]⟩)) := by
        rcases HI.out.kr with h | h
        · rw [h] at hlt; simp at hlt
        · exact h
      have hck := hrow.cell hlt
      rw [hkey, Option.getD_some] at hck
      clear hrow
      subst ha
      have hb0 := cell_of_block HI.out.b0
      have hb3 := cell_of_block HI.out.b3
      have hkm : key ∈ keys := List.mem_of_getElem? hkey
      have HKEY : Hid (keys[k]? = some key) := hkey
      have hnl : Hid (look ((keys.take k).zip ks) key = none) := by
        show _ = _
        refine look_zip_none _ _ _ (fun hm => ?_)
        have hke : keys[k] = key := by have := List.getElem?_eq_getElem hlt; rw [this] at hkey; exact Option.some.inj hkey
        obtain ⟨i, hi, he⟩ := List.getElem_of_mem hm
        rw [List.length_take] at hi
        rw [List.getElem_take] at he
        have := (List.getElem_inj (h₀ := by omega) (h₁ := hlt) hnd).1 (he.trans hke.symm)
        omega
      have hlz : ((keys.take k).zip ks).length < 1073741824 := by rw [List.length_zip, List.length_take]; omega
      have HLZ : Hid (((keys.take k).zip ks).length < 1073741824) := hlz
      have hks' := hks key hkm
      have hBr : B ≤ wr.heap.size := by have := HI.out.tn.size; omega
      clear hkey hlz
      go_wp2_with fail
      go_region_with (go_at_call 23; refine (lock_any B F R mref' fv' ((keys.take k).zip ks) free' key _ ?_ hks' hnl.out HLZ.out ?_).mono ?_; exact HI.out.st.drew; exact hBr; rintro e w2 ⟨j, mref2, fv2, free2, he, st2, hf2, ho2, hm2, T2⟩; unfold ptr at he; subst he; obtain ⟨q3, qr, qf⟩ := HI.out.after hlt T2; have X : Hid (LInv w B F R mref fv free keys (some ⟨kb, 0, none⟩) kc (k + 1) (w2.setCell ⟨w.heap.size + 1 + 1, k, none⟩ (.pointer (some ⟨j, 0, none⟩))) (ks ++ [j]) mref2 fv2 free2) := HI.out.step hB hfw hlt HKEY.out st2 hf2 ho2 T2 hm2; clear st2 hf2 ho2 T2 hm2)
      all_goals
        go_wp2
        go_roundw
        case rel => exact ⟨k + 1, ks ++ [j], mref2, fv2, free2, by omega, by go_num, X⟩
        case measure => simp [intOf]; omega
    · have hltI : ¬ (k : Int) < (keys.length : Int) := by omega
      obtain rfl : k = keys.length := by omega
      go_wp2
      go_ret
      have I := HI.out
      have hst := I.st
      rw [List.take_of_length_le (Nat.le_refl _)] at hst
      exact ⟨rfl, ks, mref', fv', free', ⟨I.len, hst, I.fl, I.ff, I.tn, I.b0, I.b1, I.b3, I.row.congr (fun i hi => by rw [if_pos hi]), I.kr⟩⟩
end Go.Proofs.Qxb6616406a.Rg
