/-
  The walks of (*keyLocks).lock at seat b6616406a's dump.
-/
import Derived.Test.Qxb6616406aReg
import Derived.BigRegion
import Derived.RegionTactic
namespace Go.Proofs.Qxb6616406a.Rg
open Go.RowKit Go.Maps
open Go.MuLone
set_option linter.unusedVariables false

set_option maxRecDepth 40000 in
set_option maxHeartbeats 2000000 in
/-- lock: the map is there, no lock is free: a new one. -/
theorem lockP2 (R M c : Nat) (a : Option Addr) (key : ByteArray) (held : List (ByteArray × Nat)) (w : World) (rg : RG w R 0 (some M) (.slice a 0 c)) (mp : MapIs w M held) (hs : key.size ≤ maxLen) (hn : look held key = none) (hl : held.length < 1073741824) :
    Calls Try.prog 23 #[.pointer (some ⟨R, 1, none⟩), .string key] w fun e w' => ∃ w1, e = .returned (.pointer (some ⟨w.heap.size, 0, none⟩)) ∧ MapIs w1 M (held ++ [(key, w.heap.size)]) ∧
      ((w.setCell ⟨R, 1, none⟩ (.int .i32 1)).alloc (.cells #[.int .i32 0, .int .u32 0, .int .i64 0] 67)).mapTurned w1 M ∧
      w' = ((w1.setCell ⟨w.heap.size, 2, none⟩ (.int .i64 1)).setCell ⟨R, 1, none⟩ (.int .i32 0)).setCell ⟨w.heap.size, 0, none⟩ (.int .i32 1) := by
  have hRM := rg.ne_map mp
  have rg1 := rg.set1 1
  have mp1 : MapIs (w.setCell ⟨R, 1, none⟩ (.int .i32 1)) M held := mp.of_block (Below.heap_setCell _ _ _ _ (by exact fun e => hRM e.symm))
  have hlk := mp1.look_none hs hn
  have rg2 := rg1.alloc (.cells #[.int .i32 0, .int .u32 0, .int .i64 0] 67)
  have mp2 : MapIs ((w.setCell ⟨R, 1, none⟩ (.int .i32 1)).alloc (.cells #[.int .i32 0, .int .u32 0, .int .i64 0] 67)) M held := mp1.of_block (Below.heap_alloc _ _ _ (by obtain ⟨es, cl, hb⟩ := mp1.isMap; exact (Array.getElem?_eq_some_iff.1 hb).1))
  obtain ⟨w1, hup, mp3, ht⟩ := mp2.store (k := w.heap.size) hs hn hl
  have kl2 := KL.made (w.setCell ⟨R, 1, none⟩ (.int .i32 1))
  simp only [World.size_setCell] at kl2
  have kl3 : KL w1 w.heap.size 0 0 := kl2.of_block (ht.grown.block _ (by simp) (fun e => (kl2.ne_map mp2) (Option.some.inj e)))
  have rg3 : RG w1 R 1 (some M) (.slice a 0 c) := rg2.of_block (ht.grown.block _ rg2.lt (fun e => hRM (Option.some.inj e)))
  have hkR : w.heap.size ≠ R := kl3.ne_reg rg3
  have c1 := rg.c1; have f1 := rg.fz 1
  have c13 := rg1.c3; have c14 := rg1.c4
  have c23 := rg2.c3
  have kc := kl3.c2; have kf := kl3.fz 2
  have q51 : ∀ (w : World) (r : Option Nat), (binOp .eql 51 (.map r) (.map none)).run Try.prog w = .ok (.bool r.isNone) w := fun w r => run_eql_map_nil w _ _ _ r Try.underlying51
  unfold ptr at hup
  go_enter Try.func23, Try.ntmps23
  go_wp2_with (go_at_call 32; refine (lock_free Try.muLib ⟨R, 1, none⟩ _ c1 f1).mono ?_; rintro e w' ⟨rfl, rfl⟩)
  have rg4 := rg3.other (p := ⟨w.heap.size, 2, none⟩) (fun e => hkR e.symm) (.int .i64 1)
  have rg5 := rg4.set1 0
  have kl4 := (kl3.set2 1).other (p := ⟨R, 1, none⟩) hkR (.int .i32 0)
  refine (unlock_held Try.muLib ⟨R, 1, none⟩ _ rg4.c1 (rg4.fz 1)).mono ?_
  rintro e w' ⟨rfl, rfl⟩
  go_wp2_with fail
  refine (lock_free Try.muLib ⟨w.heap.size, 0, none⟩ _ kl4.c0 (kl4.fz 0)).mono ?_
  rintro e w' ⟨rfl, rfl⟩
  go_wp2
  go_ret
  exact ⟨w1, rfl, mp3, ht, rfl⟩

set_option maxRecDepth 40000 in
set_option maxHeartbeats 2000000 in
/-- lock: the map is made now; no lock is free: a new one. -/
theorem lockP1 (R c : Nat) (a : Option Addr) (key : ByteArray) (w : World) (rg : RG w R 0 none (.slice a 0 c)) (hs : key.size ≤ maxLen) :
    Calls Try.prog 23 #[.pointer (some ⟨R, 1, none⟩), .string key] w fun e w' => ∃ w1, e = .returned (.pointer (some ⟨w.heap.size + 1, 0, none⟩)) ∧ MapIs w1 w.heap.size [(key, w.heap.size + 1)] ∧
      ((((w.setCell ⟨R, 1, none⟩ (.int .i32 1)).setCell ⟨R, 3, none⟩ (.map (some w.heap.size))).alloc (.map #[] 0)).alloc (.cells #[.int .i32 0, .int .u32 0, .int .i64 0] 67)).mapTurned w1 w.heap.size ∧
      w' = ((w1.setCell ⟨w.heap.size + 1, 2, none⟩ (.int .i64 1)).setCell ⟨R, 1, none⟩ (.int .i32 0)).setCell ⟨w.heap.size + 1, 0, none⟩ (.int .i32 1) := by
  have hRlt := rg.lt
  have rg1 := rg.set1 1
  have rg1' := rg1.set3 (some w.heap.size)
  have rg2 := (rg1'.alloc (.map #[] 0)).alloc (.cells #[.int .i32 0, .int .u32 0, .int .i64 0] 67)
  have mp1 := MapIs.made ((w.setCell ⟨R, 1, none⟩ (.int .i32 1)).setCell ⟨R, 3, none⟩ (.map (some w.heap.size)))
  simp only [World.size_setCell] at mp1
  have mp2 : MapIs ((((w.setCell ⟨R, 1, none⟩ (.int .i32 1)).setCell ⟨R, 3, none⟩ (.map (some w.heap.size))).alloc (.map #[] 0)).alloc (.cells #[.int .i32 0, .int .u32 0, .int .i64 0] 67)) w.heap.size [] := mp1.of_block (Below.heap_alloc _ _ _ (by simp))
  obtain ⟨w1, hup, mp3, ht⟩ := mp2.store (k := w.heap.size + 1) hs rfl (by simp)
  have kl2 := KL.made (((w.setCell ⟨R, 1, none⟩ (.int .i32 1)).setCell ⟨R, 3, none⟩ (.map (some w.heap.size))).alloc (.map #[] 0))
  simp only [World.size_setCell, World.size_alloc] at kl2
  have kl3 : KL w1 (w.heap.size + 1) 0 0 := kl2.of_block (ht.grown.block _ (by simp) (fun e => (kl2.ne_map mp2) (Option.some.inj e)))
  have hRM : R ≠ w.heap.size := by omega
  have rg3 : RG w1 R 1 (some w.heap.size) (.slice a 0 c) := rg2.of_block (ht.grown.block _ rg2.lt (fun e => hRM (Option.some.inj e)))
  have hkR : w.heap.size + 1 ≠ R := kl3.ne_reg rg3
  have c1 := rg.c1; have f1 := rg.fz 1; have f3 := rg1.fz 3
  have c13 := rg1.c3; have c14 := rg1.c4
  have c13' := rg1'.c3; have c14' := rg1'.c4
  have kc := kl3.c2; have kf := kl3.fz 2
  have hlk := fun w => Maps.look_nil (P := Try.prog) (w := w) false law9 Try.underlying51 (zero65 w) (keyOf9 hs)
  simp only [Bool.false_eq_true, if_false] at hlk
  have q51 : ∀ (w : World) (r : Option Nat), (binOp .eql 51 (.map r) (.map none)).run Try.prog w = .ok (.bool r.isNone) w := fun w r => run_eql_map_nil w _ _ _ r Try.underlying51
  have hmm := @run_makeMap Try.prog
  unfold ptr at hup
  go_enter Try.func23, Try.ntmps23
  go_wp2_with (go_at_call 32; refine (lock_free Try.muLib ⟨R, 1, none⟩ _ c1 f1).mono ?_; rintro e w' ⟨rfl, rfl⟩)
  have rg4 := rg3.other (p := ⟨w.heap.size + 1, 2, none⟩) (fun e => hkR e.symm) (.int .i64 1)
  have rg5 := rg4.set1 0
  have kl4 := (kl3.set2 1).other (p := ⟨R, 1, none⟩) hkR (.int .i32 0)
  refine (unlock_held Try.muLib ⟨R, 1, none⟩ _ rg4.c1 (rg4.fz 1)).mono ?_
  rintro e w' ⟨rfl, rfl⟩
  go_wp2_with fail
  refine (lock_free Try.muLib ⟨w.heap.size + 1, 0, none⟩ _ kl4.c0 (kl4.fz 0)).mono ?_
  rintro e w' ⟨rfl, rfl⟩
  go_wp2
  go_ret
  exact ⟨w1, rfl, mp3, ht, rfl⟩

set_option maxRecDepth 40000 in
set_option maxHeartbeats 4000000 in
/-- lock: the map is there, the last of the free locks is taken. -/
theorem lockP3 (R M g n cap k : Nat) (key : ByteArray) (held : List (ByteArray × Nat)) (w : World) (rg : RG w R 0 (some M) (.slice (some ⟨g, 0, none⟩) (n + 1) cap)) (hncap : n + 1 ≤ cap) (hcap : cap ≤ maxLen) (hg : w.cell? ⟨g, n, none⟩ = some (.pointer (some ⟨k, 0, none⟩))) (hgR : g ≠ R) (kl : KL w k 0 0)
    (mp : MapIs w M held) (hs : key.size ≤ maxLen) (hn : look held key = none) (hl : held.length < 1073741824) :
    Calls Try.prog 23 #[.pointer (some ⟨R, 1, none⟩), .string key] w fun e w' => ∃ w1, e = .returned (.pointer (some ⟨k, 0, none⟩)) ∧ MapIs w1 M (held ++ [(key, k)]) ∧
      ((w.setCell ⟨R, 1, none⟩ (.int .i32 1)).setCell ⟨R, 4, none⟩ (.slice (some ⟨g, 0, none⟩) n cap)).drew.mapTurned w1 M ∧
      w' = ((w1.setCell ⟨k, 2, none⟩ (.int .i64 1)).setCell ⟨R, 1, none⟩ (.int .i32 0)).setCell ⟨k, 0, none⟩ (.int .i32 1) := by
  have hRM := rg.ne_map mp
  have rg1 := rg.set1 1
  have mp1 : MapIs (w.setCell ⟨R, 1, none⟩ (.int .i32 1)) M held := mp.of_block (Below.heap_setCell _ _ _ _ (by exact fun e => hRM e.symm))
  have hlk := mp1.look_none hs hn
  have rg2 := rg1.set4 (.slice (some ⟨g, 0, none⟩) n cap)
  have mp2 : MapIs ((w.setCell ⟨R, 1, none⟩ (.int .i32 1)).setCell ⟨R, 4, none⟩ (.slice (some ⟨g, 0, none⟩) n cap)).drew M held := mp1.of_block (Below.heap_setCell _ _ _ _ (by exact fun e => hRM e.symm))
  obtain ⟨w1, hup, mp3, ht⟩ := mp2.store (k := k) hs hn hl
  have hkR : k ≠ R := kl.ne_reg rg
  have kl2 : KL ((w.setCell ⟨R, 1, none⟩ (.int .i32 1)).setCell ⟨R, 4, none⟩ (.slice (some ⟨g, 0, none⟩) n cap)).drew k 0 0 := ((kl.other (p := ⟨R, 1, none⟩) hkR _).other (p := ⟨R, 4, none⟩) hkR _)
  have kl3 : KL w1 k 0 0 := kl2.of_block (ht.grown.block _ kl2.lt (fun e => (kl2.ne_map mp2) (Option.some.inj e)))
  have rg2' : RG ((w.setCell ⟨R, 1, none⟩ (.int .i32 1)).setCell ⟨R, 4, none⟩ (.slice (some ⟨g, 0, none⟩) n cap)).drew R 1 (some M) (.slice (some ⟨g, 0, none⟩) n cap) := rg2.of_block rfl
  have rg3 : RG w1 R 1 (some M) (.slice (some ⟨g, 0, none⟩) n cap) := rg2'.of_block (ht.grown.block _ rg2'.lt (fun e => hRM (Option.some.inj e)))
  have c1 := rg.c1; have f1 := rg.fz 1; have f4 := rg1.fz 4
  have c13 := rg1.c3; have c14 := rg1.c4
  have c23 := rg2.c3
  have kc := kl3.c2; have kf := kl3.fz 2
  have hg1 : (w.setCell ⟨R, 1, none⟩ (.int .i32 1)).cell? ⟨g, n, none⟩ = some (.pointer (some ⟨k, 0, none⟩)) := (World.cell?_setCell_other w ⟨R, 1, none⟩ ⟨g, n, none⟩ _ (fun e => hgR (congrArg Addr.block e).symm)).trans hg
  have hg2 : ((w.setCell ⟨R, 1, none⟩ (.int .i32 1)).setCell ⟨R, 4, none⟩ (.slice (some ⟨g, 0, none⟩) n cap)).cell? ⟨g, n, none⟩ = some (.pointer (some ⟨k, 0, none⟩)) := (World.cell?_setCell_other _ ⟨R, 4, none⟩ ⟨g, n, none⟩ _ (fun e => hgR (congrArg Addr.block e).symm)).trans hg1
  have q51 : ∀ (w : World) (r : Option Nat), (binOp .eql 51 (.map r) (.map none)).run Try.prog w = .ok (.bool r.isNone) w := fun w r => run_eql_map_nil w _ _ _ r Try.underlying51
  have i1 : (0 : Int) < (n : Int) + 1 := by omega
  have i2 : (n : Int) < (n : Int) + 1 := by omega
  have i3 : (n : Int) ≤ (cap : Int) := by omega
  have i4 : (cap : Int) ≤ 9223372036854775807 := by unfold maxLen at hcap; omega
  have i5 : (n : Int) + 1 ≤ (cap : Int) := by omega
  unfold ptr at hup
  go_enter Try.func23, Try.ntmps23
  go_wp2_with (go_at_call 32; refine (lock_free Try.muLib ⟨R, 1, none⟩ _ c1 f1).mono ?_; rintro e w' ⟨rfl, rfl⟩)
  go_region
  go_wp2_with fail
  have rg4 := rg3.other (p := ⟨k, 2, none⟩) (fun e => hkR e.symm) (.int .i64 1)
  have rg5 := rg4.set1 0
  have kl4 := (kl3.set2 1).other (p := ⟨R, 1, none⟩) hkR (.int .i32 0)
  refine (unlock_held Try.muLib ⟨R, 1, none⟩ _ rg4.c1 (rg4.fz 1)).mono ?_
  rintro e w' ⟨rfl, rfl⟩
  go_wp2_with fail
  refine (lock_free Try.muLib ⟨k, 0, none⟩ _ kl4.c0 (kl4.fz 0)).mono ?_
  rintro e w' ⟨rfl, rfl⟩
  go_wp2
  go_ret
  exact ⟨w1, rfl, mp3, ht, rfl⟩

/-! ### lock, on the registry's state -/
/-- What a step on lock k leaves of the others. -/
theorem St.keep {w w' : World} {B F R k : Nat} {mref : Option Nat} {fv : Value} {held : List (ByteArray × Nat)} {free : List Nat} (st : St w B F R mref fv held free) (T : Turn (fun b => b = R ∨ mref = some b ∨ b = k) w w') :
    (∀ p ∈ held, p.2 ≠ k → KL w' p.2 1 1 ∧ B ≤ p.2) ∧ (∀ j ∈ free, j ≠ k → KL w' j 0 0 ∧ B ≤ j) := by
  have hm : ∀ j s u, KL w j s u → ¬ mref = some j := by
    intro j s u hj e
    rcases st.mp with ⟨h, _⟩ | ⟨M, h, _, hM⟩
    · rw [h] at e; cases e
    · rw [h] at e; cases e; exact hj.ne_map hM rfl
  refine ⟨fun p hp hne => ?_, fun j hj hne => ?_⟩
  · have h := (st.hk p hp).1
    refine ⟨h.of_block (T.block _ h.lt ?_), (st.hk p hp).2⟩
    rintro (e | e | e)
    · exact h.ne_reg st.rg e
    · exact hm _ _ _ h e
    · exact hne e
  · have h := (st.fk j hj).1
    refine ⟨h.of_block (T.block _ h.lt ?_), (st.fk j hj).2⟩
    rintro (e | e | e)
    · exact h.ne_reg st.rg e
    · exact hm _ _ _ h e
    · exact hne e

theorem row_zero {w : World} {F : Nat} {fv : Value} {xs : List Value} (h : w.ownsRow F 65 1 fv 0 xs) : ∃ a c, fv = .slice a 0 c := by
  obtain ⟨_, h2 | ⟨g, cap, cur, hv, _⟩⟩ := h
  · exact ⟨none, 0, h2.1⟩
  · exact ⟨some ⟨g, 0, none⟩, cap, hv⟩

theorem row_lt {w : World} {F n g : Nat} {fv : Value} {xs : List Value} (h : w.ownsRow F 65 1 fv n xs) (hg : fv.ownBlock = some g) : g < w.heap.size := (h.lt g hg).2

set_option maxHeartbeats 1000000 in
theorem lock_any (B F R : Nat) (mref : Option Nat) (fv : Value) (held : List (ByteArray × Nat)) (free : List Nat) (key : ByteArray) (w : World) (st : St w B F R mref fv held free) (hs : key.size ≤ maxLen) (hn : look held key = none) (hl : held.length < 1073741824) (hB : B ≤ w.heap.size) :
    Calls Try.prog 23 #[.pointer (some ⟨R, 1, none⟩), .string key] w fun e w' => ∃ k mref' fv' free', e = .returned (ptr k) ∧ St w' B F R mref' fv' (held ++ [(key, k)]) free' ∧
      ((free = [] ∧ free' = [] ∧ fv' = fv) ∨ free = free' ++ [k]) ∧ fv'.ownBlock = fv.ownBlock ∧ (∀ b, mref' = some b → mref = some b ∨ w.heap.size ≤ b) ∧ Turn (fun b => b = R ∨ mref = some b ∨ b ∈ free) w w' := by
  have hRlt := st.rg.lt
  rcases List.eq_nil_or_concat free with rfl | ⟨f0, k, hfree⟩
  · -- no lock is free
    obtain ⟨a, c, rfl⟩ := row_zero st.fr
    rcases st.mp with ⟨rfl, rfl, _⟩ | ⟨M, rfl, hMB, mp⟩
    · -- the map is made now
      refine (lockP1 R c a key w st.rg hs).mono ?_
      rintro e w' ⟨w1, rfl, mp3, ht, rfl⟩
      have T0 : Turn (fun b => b = R ∨ (none : Option Nat) = some b ∨ b = w.heap.size + 1) w ((((w.setCell ⟨R, 1, none⟩ (.int .i32 1)).setCell ⟨R, 3, none⟩ (.map (some w.heap.size))).alloc (.map #[] 0)).alloc (.cells #[.int .i32 0, .int .u32 0, .int .i64 0] 67)) :=
        ((((Turn.refl _ w).setCell (.inr (.inl rfl)) _).setCell (.inr (.inl rfl)) _).alloc _).alloc _
      have T1 := T0.grown ht.grown (fun k e => by cases e; exact .inl (Nat.le_refl _))
      have T := ((T1.setCell (p := ⟨w.heap.size + 1, 2, none⟩) (.inr (.inr (.inr rfl))) (.int .i64 1)).setCell (p := ⟨R, 1, none⟩) (.inr (.inl rfl)) (.int .i32 0)).setCell (p := ⟨w.heap.size + 1, 0, none⟩) (.inr (.inr (.inr rfl))) (.int .i32 1)
      have rg2 := (((st.rg.set1 1).set3 (some w.heap.size)).alloc (.map #[] 0)).alloc (.cells #[.int .i32 0, .int .u32 0, .int .i64 0] 67)
      have hRM : R ≠ w.heap.size := by omega
      have rg3 : RG w1 R 1 (some w.heap.size) (.slice a 0 c) := rg2.of_block (ht.grown.block _ rg2.lt (fun e => hRM (Option.some.inj e)))
      have kl2 := KL.made (((w.setCell ⟨R, 1, none⟩ (.int .i32 1)).setCell ⟨R, 3, none⟩ (.map (some w.heap.size))).alloc (.map #[] 0))
      simp only [World.size_setCell, World.size_alloc] at kl2
      have kl3 : KL w1 (w.heap.size + 1) 0 0 := kl2.of_block (ht.grown.block _ (by simp) (fun e => by have := Option.some.inj e; omega))
      have hkR : w.heap.size + 1 ≠ R := by omega
      have rg' := ((rg3.other (p := ⟨w.heap.size + 1, 2, none⟩) (fun e => hkR e.symm) (.int .i64 1)).set1 0).other (p := ⟨w.heap.size + 1, 0, none⟩) (fun e => hkR e.symm) (.int .i32 1)
      have kl' := (((kl3.set2 1).other (p := ⟨R, 1, none⟩) hkR (.int .i32 0)).set0 1)
      have mp' := mp3.of_block (w' := ((w1.setCell ⟨w.heap.size + 1, 2, none⟩ (.int .i64 1)).setCell ⟨R, 1, none⟩ (.int .i32 0)).setCell ⟨w.heap.size + 1, 0, none⟩ (.int .i32 1)) (by
        rw [Below.heap_setCell _ _ _ _ (by simp), Below.heap_setCell _ _ _ _ (by exact fun e => hRM e.symm), Below.heap_setCell _ _ _ _ (by simp)])
      refine ⟨w.heap.size + 1, some w.heap.size, .slice a 0 c, [], rfl, ⟨rg', st.rB, .inr ⟨_, rfl, hB, mp'⟩, ?_, ?_, fun k hk => (by cases hk), by simp⟩, .inl ⟨rfl, rfl, rfl⟩, rfl, fun b hb => .inr (Nat.le_of_eq (Option.some.inj hb)), T.mono ?_⟩
      · exact row_of_block st.fr (fun g hg => T.block g (row_lt st.fr hg) (by
          have hne := row_ne st.fr hg
          have hlt := row_lt st.fr hg
          rintro (e | e | e)
          · exact hne.2.1 _ _ _ _ st.rg e
          · cases e
          · omega))
      · intro p hp
        simp at hp
        subst hp
        exact ⟨kl', by show B ≤ w.heap.size + 1; omega⟩
      · rintro b hb (e | e | e)
        · exact .inl e
        · exact .inr (.inl e)
        · omega
    · -- the map is there
      refine (lockP2 R M c a key held w st.rg mp hs hn hl).mono ?_
      rintro e w' ⟨w1, rfl, mp3, ht, rfl⟩
      have hRM := st.rg.ne_map mp
      have hMlt : M < w.heap.size := by obtain ⟨es, cl, hb⟩ := mp.isMap; exact (Array.getElem?_eq_some_iff.1 hb).1
      have T0 : Turn (fun b => b = R ∨ some M = some b ∨ b = w.heap.size) w ((w.setCell ⟨R, 1, none⟩ (.int .i32 1)).alloc (.cells #[.int .i32 0, .int .u32 0, .int .i64 0] 67)) :=
        ((Turn.refl _ w).setCell (.inr (.inl rfl)) _).alloc _
      have T1 := T0.grown ht.grown (fun k e => by cases e; exact .inr (.inr (.inl rfl)))
      have T := ((T1.setCell (p := ⟨w.heap.size, 2, none⟩) (.inr (.inr (.inr rfl))) (.int .i64 1)).setCell (p := ⟨R, 1, none⟩) (.inr (.inl rfl)) (.int .i32 0)).setCell (p := ⟨w.heap.size, 0, none⟩) (.inr (.inr (.inr rfl))) (.int .i32 1)
      have rg2 := (st.rg.set1 1).alloc (.cells #[.int .i32 0, .int .u32 0, .int .i64 0] 67)
      have rg3 : RG w1 R 1 (some M) (.slice a 0 c) := rg2.of_block (ht.grown.block _ rg2.lt (fun e => hRM (Option.some.inj e)))
      have kl2 := KL.made (w.setCell ⟨R, 1, none⟩ (.int .i32 1))
      simp only [World.size_setCell] at kl2
      have kl3 : KL w1 w.heap.size 0 0 := kl2.of_block (ht.grown.block _ (by simp) (fun e => by have := Option.some.inj e; omega))
      have hkR : w.heap.size ≠ R := by omega
      have rg' := ((rg3.other (p := ⟨w.heap.size, 2, none⟩) (fun e => hkR e.symm) (.int .i64 1)).set1 0).other (p := ⟨w.heap.size, 0, none⟩) (fun e => hkR e.symm) (.int .i32 1)
      have kl' := (((kl3.set2 1).other (p := ⟨R, 1, none⟩) hkR (.int .i32 0)).set0 1)
      have mp' := mp3.of_block (w' := ((w1.setCell ⟨w.heap.size, 2, none⟩ (.int .i64 1)).setCell ⟨R, 1, none⟩ (.int .i32 0)).setCell ⟨w.heap.size, 0, none⟩ (.int .i32 1)) (by
        rw [Below.heap_setCell _ _ _ _ (by show M ≠ w.heap.size; omega), Below.heap_setCell _ _ _ _ (by exact fun e => hRM e.symm), Below.heap_setCell _ _ _ _ (by show M ≠ w.heap.size; omega)])
      have kp := st.keep T
      refine ⟨w.heap.size, some M, .slice a 0 c, [], rfl, ⟨rg', st.rB, .inr ⟨_, rfl, hMB, mp'⟩, ?_, ?_, fun k hk => (by cases hk), ?_⟩, .inl ⟨rfl, rfl, rfl⟩, rfl, fun b hb => .inl hb, T.mono ?_⟩
      · exact row_of_block st.fr (fun g hg => T.block g (row_lt st.fr hg) (by
          have hne := row_ne st.fr hg
          have hlt := row_lt st.fr hg
          rintro (e | e | e)
          · exact hne.2.1 _ _ _ _ st.rg e
          · exact hne.2.2 _ _ mp (Option.some.inj e).symm
          · omega))
      · intro p hp
        rw [List.mem_append] at hp
        rcases hp with hp | hp
        · exact kp.1 p hp (fun e => by have := (st.hk p hp).1.lt; omega)
        · simp at hp; subst hp; exact ⟨kl', hB⟩
      · have nd := st.nd
        rw [List.append_nil] at nd ⊢
        rw [List.map_append, List.nodup_append]
        refine ⟨nd, by simp, fun x hx y hy e => ?_⟩
        simp at hy
        subst hy; subst e
        obtain ⟨p, hp, hpe⟩ := List.mem_map.1 hx
        have := (st.hk p hp).1.lt
        omega
      · rintro b hb (e | e | e)
        · exact .inl e
        · exact .inr (.inl e)
        · omega
  · -- the last free lock is taken
    obtain rfl : free = f0 ++ [k] := by rw [hfree]; simp
    rcases st.mp with ⟨_, _, h0⟩ | ⟨M, rfl, hMB, mp⟩
    · simp at h0
    have hfr := st.fr
    rw [List.length_append, List.map_append] at hfr
    obtain ⟨hl1, h2 | ⟨g, cap, cur, hv, hF, hh, hc, hm, hcs, ht0⟩⟩ := id hfr
    · simp at h2
    simp only [List.length_singleton] at hv hc ht0
    subst hv
    have hk0 := (st.fk k (by simp)).1
    have hgc : w.cell? ⟨g, f0.length, none⟩ = some (.pointer (some ⟨k, 0, none⟩)) := by
      have e : (cur.toList.take ((f0.length + 1) * 1))[f0.length]? = some (ptr k) := by
        rw [ht0, List.getElem?_append_right (by simp)]; simp
      rw [List.getElem?_take, if_pos (by omega), Array.getElem?_toList] at e
      simp [World.cell?, hh, e, ptr]
    have hne := row_ne st.fr (g := g) rfl
    have hgR := hne.2.1 _ _ _ _ st.rg
    have hgM := hne.2.2 _ _ mp
    have hgk := hne.1 _ _ _ hk0
    refine (lockP3 R M g f0.length cap k key held w st.rg (by omega) hm hgc hgR hk0 mp hs hn hl).mono ?_
    rintro e w' ⟨w1, rfl, mp3, ht, rfl⟩
    have hRM := st.rg.ne_map mp
    have hkM := hk0.ne_map mp
    have hkR := hk0.ne_reg st.rg
    have T0 : Turn (fun b => b = R ∨ some M = some b ∨ b = k) w ((w.setCell ⟨R, 1, none⟩ (.int .i32 1)).setCell ⟨R, 4, none⟩ (.slice (some ⟨g, 0, none⟩) f0.length cap)).drew :=
      (((Turn.refl _ w).setCell (.inr (.inl rfl)) _).setCell (.inr (.inl rfl)) _).drew
    have T1 := T0.grown ht.grown (fun k e => by cases e; exact .inr (.inr (.inl rfl)))
    have T := ((T1.setCell (p := ⟨k, 2, none⟩) (.inr (.inr (.inr rfl))) (.int .i64 1)).setCell (p := ⟨R, 1, none⟩) (.inr (.inl rfl)) (.int .i32 0)).setCell (p := ⟨k, 0, none⟩) (.inr (.inr (.inr rfl))) (.int .i32 1)
    have rg2 : RG ((w.setCell ⟨R, 1, none⟩ (.int .i32 1)).setCell ⟨R, 4, none⟩ (.slice (some ⟨g, 0, none⟩) f0.length cap)).drew R 1 (some M) (.slice (some ⟨g, 0, none⟩) f0.length cap) := ((st.rg.set1 1).set4 _).of_block rfl
    have rg3 : RG w1 R 1 (some M) (.slice (some ⟨g, 0, none⟩) f0.length cap) := rg2.of_block (ht.grown.block _ rg2.lt (fun e => hRM (Option.some.inj e)))
    have kl2 : KL ((w.setCell ⟨R, 1, none⟩ (.int .i32 1)).setCell ⟨R, 4, none⟩ (.slice (some ⟨g, 0, none⟩) f0.length cap)).drew k 0 0 := ((hk0.other (p := ⟨R, 1, none⟩) hkR _).other (p := ⟨R, 4, none⟩) hkR _)
    have kl3 : KL w1 k 0 0 := kl2.of_block (ht.grown.block _ kl2.lt (fun e => hkM (Option.some.inj e)))
    have rg' := ((rg3.other (p := ⟨k, 2, none⟩) (fun e => hkR e.symm) (.int .i64 1)).set1 0).other (p := ⟨k, 0, none⟩) (fun e => hkR e.symm) (.int .i32 1)
    have kl' := (((kl3.set2 1).other (p := ⟨R, 1, none⟩) hkR (.int .i32 0)).set0 1)
    have mp' := mp3.of_block (w' := ((w1.setCell ⟨k, 2, none⟩ (.int .i64 1)).setCell ⟨R, 1, none⟩ (.int .i32 0)).setCell ⟨k, 0, none⟩ (.int .i32 1)) (by
      rw [Below.heap_setCell _ _ _ _ (by exact fun e => hkM e.symm), Below.heap_setCell _ _ _ _ (by exact fun e => hRM e.symm), Below.heap_setCell _ _ _ _ (by exact fun e => hkM e.symm)])
    have kp := st.keep T
    have nd := st.nd
    have hfrP := ownsRow_pop (by simp) hfr
    refine ⟨k, some M, .slice (some ⟨g, 0, none⟩) f0.length cap, f0, rfl, ⟨rg', st.rB, .inr ⟨_, rfl, hMB, mp'⟩, ?_, ?_, ?_, ?_⟩, .inr rfl, rfl, fun b hb => .inl hb, T.mono ?_⟩
    · exact row_of_block hfrP (fun g' hg' => by
        have e : g = g' := by simpa [Value.ownBlock] using hg'
        subst e
        refine T.block g (row_lt st.fr (g := g) rfl) ?_
        rintro (e | e | e)
        · exact hgR e
        · exact hgM (Option.some.inj e).symm
        · exact hgk e)
    · intro p hp
      rw [List.mem_append] at hp
      rcases hp with hp | hp
      · refine kp.1 p hp (fun e => ?_)
        rw [List.nodup_append] at nd
        exact nd.2.2 p.2 (List.mem_map.2 ⟨p, hp, rfl⟩) k (by simp) e
      · simp at hp; subst hp; exact ⟨kl', (st.fk k (by simp)).2⟩
    · intro j hj
      refine kp.2 j (by simp [hj]) (fun e => ?_)
      subst e
      rw [List.nodup_append] at nd
      have := nd.2.1
      rw [List.nodup_append] at this
      exact this.2.2 j hj j (by simp) rfl
    · rw [List.map_append, List.append_assoc]
      have hp : (held.map (·.2) ++ (f0 ++ [k])).Perm (held.map (·.2) ++ ([(key, k)].map (·.2) ++ f0)) := by
        refine List.Perm.append_left _ ?_
        simp
      exact hp.nodup nd
    · rintro b hb (e | e | e)
      · exact .inl e
      · exact .inr (.inl e)
      · subst e; exact .inr (.inr (by simp))
end Go.Proofs.Qxb6616406a.Rg
