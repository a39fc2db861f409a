/-
  The walks of (*keyLocks).unlock at seat b6616406a's dump.
-/
import Derived.Test.Qxb6616406aLockWalk
import Derived.OwnWalk
namespace Go.Proofs.Qxb6616406a.Rg
open Go.RowKit Go.Maps
open Go.MuLone
set_option linter.unusedVariables false

theorem info65 : (Try.prog.info? 65).map (fun i => (i.zero, i.size, i.bytes)) = some (some (.pointer none), 1, 8) := by kernel_rfl

theorem MapIs.dropAny {w : World} {M k : Nat} {held : List (ByteArray × Nat)} {s : ByteArray} (h : MapIs w M (held ++ [(s, k)])) (hs : s.size ≤ maxLen) (hn : look held s = none) :
    ∃ w', (∀ ty, (Builtin.delete_ #[51, 9] ty #[.map (some M), .string s]).run Try.prog w = .ok (.tuple #[]) w') ∧ MapIs w' M held ∧ w.mapTurned w' M := by
  obtain ⟨w', hrun, r1, r2⟩ := h.drop hs hn 0
  exact ⟨w', fun ty => hrun, r1, r2⟩

set_option maxRecDepth 40000 in
set_option maxHeartbeats 2000000 in
/-- unlock: the free list is full: the lock is dropped. -/
theorem unlockU1 (R M k n c : Nat) (a : Option Addr) (key : ByteArray) (held : List (ByteArray × Nat)) (w : World) (rg : RG w R 0 (some M) (.slice a n c)) (h64 : 64 ≤ n) (hn63 : n ≤ 1073741824) (kl : KL w k 1 1)
    (mp : MapIs w M (held ++ [(key, k)])) (hs : key.size ≤ maxLen) (hn : look held key = none) :
    Calls Try.prog 26 #[.pointer (some ⟨R, 1, none⟩), .string key, .pointer (some ⟨k, 0, none⟩)] w fun e w' => ∃ w1, e = .returned (.tuple #[]) ∧ MapIs w1 M held ∧
      (((w.setCell ⟨k, 0, none⟩ (.int .i32 0)).setCell ⟨R, 1, none⟩ (.int .i32 1)).setCell ⟨k, 2, none⟩ (.int .i64 0)).mapTurned w1 M ∧
      w' = w1.setCell ⟨R, 1, none⟩ (.int .i32 0) := by
  have hRM := rg.ne_map mp
  have hkM := kl.ne_map mp
  have hkR := kl.ne_reg rg
  have kl1 := kl.set0 0
  have rg1 := rg.other (p := ⟨k, 0, none⟩) (fun e => hkR e.symm) (.int .i32 0)
  have rg2 := rg1.set1 1
  have kl2 := kl1.other (p := ⟨R, 1, none⟩) hkR (.int .i32 1)
  have kl3 := kl2.set2 0
  have rg3 := rg2.other (p := ⟨k, 2, none⟩) (fun e => hkR e.symm) (.int .i64 0)
  have mp3 : MapIs (((w.setCell ⟨k, 0, none⟩ (.int .i32 0)).setCell ⟨R, 1, none⟩ (.int .i32 1)).setCell ⟨k, 2, none⟩ (.int .i64 0)) M (held ++ [(key, k)]) := mp.of_block (by
    rw [Below.heap_setCell _ _ _ _ (by exact fun e => hkM e.symm), Below.heap_setCell _ _ _ _ (by exact fun e => hRM e.symm), Below.heap_setCell _ _ _ _ (by exact fun e => hkM e.symm)])
  obtain ⟨w1, hdel, mp4, ht⟩ := mp3.dropAny hs hn
  have rg4 : RG w1 R 1 (some M) (.slice a n c) := rg3.of_block (ht.grown.block _ rg3.lt (fun e => hRM (Option.some.inj e)))
  have k0 := kl.c0; have kf0 := kl.fz 0
  have c1 := rg1.c1; have f1 := rg1.fz 1
  have k2 := kl2.c2; have kf2 := kl2.fz 2
  have k3 := kl3.c2
  have c33 := rg3.c3
  have c44 := rg4.c4
  have i1 : ¬ (n : Int) < 64 := by omega
  go_enter_defers Try.func26, Try.ntmps26
  go_wp2_with fail
  refine (unlock_held Try.muLib ⟨k, 0, none⟩ _ k0 kf0).mono ?_
  rintro e w' ⟨rfl, rfl⟩
  go_wp2_with fail
  refine (lock_free Try.muLib ⟨R, 1, none⟩ _ c1 f1).mono ?_
  rintro e w' ⟨rfl, rfl⟩
  go_wp2_with fail
  refine leaves_cons (f := 33) (args := #[.pointer (some ⟨R, 1, none⟩)]) (by simp) (by simp [go_sem]) ?_
  refine (unlock_deferred Try.muLib ⟨R, 1, none⟩ .returning _ rg4.c1 (rg4.fz 1)).mono ?_
  rintro e u' w'' ⟨rfl, rfl, rfl⟩
  exact ⟨_, results_none rfl _ _ _, w1, rfl, mp4, ht, rfl⟩

set_option maxRecDepth 40000 in
set_option maxHeartbeats 2000000 in
/-- unlock: the lock is put behind the free ones. -/
theorem unlockU2 (R M k n c F : Nat) (a : Option Addr) (xs : List Value) (key : ByteArray) (held : List (ByteArray × Nat)) (w : World) (rg : RG w R 0 (some M) (.slice a n c)) (h64 : n < 64) (kl : KL w k 1 1)
    (hown : w.ownsRow F 65 1 (.slice a n c) n xs) (hF : F ≤ w.heap.size)
    (mp : MapIs w M (held ++ [(key, k)])) (hs : key.size ≤ maxLen) (hn : look held key = none) :
    Calls Try.prog 26 #[.pointer (some ⟨R, 1, none⟩), .string key, .pointer (some ⟨k, 0, none⟩)] w fun e w' => ∃ w1 w2 v', e = .returned (.tuple #[]) ∧ MapIs w1 M held ∧
      (((w.setCell ⟨k, 0, none⟩ (.int .i32 0)).setCell ⟨R, 1, none⟩ (.int .i32 1)).setCell ⟨k, 2, none⟩ (.int .i64 0)).mapTurned w1 M ∧
      w2.ownsRow F 65 1 v' (n + 1) (xs ++ [.pointer (some ⟨k, 0, none⟩)]) ∧ (w1.alloc (.cells #[.pointer (some ⟨k, 0, none⟩)] 65)).grownBy w2 (Value.slice a n c).ownBlock ∧
      w' = (w2.setCell ⟨R, 4, none⟩ v').setCell ⟨R, 1, none⟩ (.int .i32 0) := by
  have hRM := rg.ne_map mp
  have hkM := kl.ne_map mp
  have hkR := kl.ne_reg rg
  have kl1 := kl.set0 0
  have rg1 := rg.other (p := ⟨k, 0, none⟩) (fun e => hkR e.symm) (.int .i32 0)
  have rg2 := rg1.set1 1
  have kl2 := kl1.other (p := ⟨R, 1, none⟩) hkR (.int .i32 1)
  have kl3 := kl2.set2 0
  have rg3 := rg2.other (p := ⟨k, 2, none⟩) (fun e => hkR e.symm) (.int .i64 0)
  have mp3 : MapIs (((w.setCell ⟨k, 0, none⟩ (.int .i32 0)).setCell ⟨R, 1, none⟩ (.int .i32 1)).setCell ⟨k, 2, none⟩ (.int .i64 0)) M (held ++ [(key, k)]) := mp.of_block (by
    rw [Below.heap_setCell _ _ _ _ (by exact fun e => hkM e.symm), Below.heap_setCell _ _ _ _ (by exact fun e => hRM e.symm), Below.heap_setCell _ _ _ _ (by exact fun e => hkM e.symm)])
  obtain ⟨w1, hdel, mp4, ht⟩ := mp3.dropAny hs hn
  have rg4 : RG w1 R 1 (some M) (.slice a n c) := rg3.of_block (ht.grown.block _ rg3.lt (fun e => hRM (Option.some.inj e)))
  have hown1 : w1.ownsRow F 65 1 (.slice a n c) n xs := row_of_block hown (fun g hg => by
    have hne := row_ne hown hg
    have hlt := row_lt hown hg
    rw [ht.grown.block g (by simpa using hlt) (fun e => hne.2.2 _ _ mp (Option.some.inj e)), Below.heap_setCell _ _ _ _ (by exact hne.1 _ _ _ kl), Below.heap_setCell _ _ _ _ (by exact hne.2.1 _ _ _ _ rg), Below.heap_setCell _ _ _ _ (by exact hne.1 _ _ _ kl)])
  have hsz1 : w.heap.size ≤ w1.heap.size := by have := ht.grown.size; simpa using this
  obtain ⟨i0, hi, hz0, hz1, hz2⟩ := info_parts info65
  have k0 := kl.c0; have kf0 := kl.fz 0
  have c1 := rg1.c1; have f1 := rg1.fz 1
  have k2 := kl2.c2; have kf2 := kl2.fz 2
  have k3 := kl3.c2
  have c33 := rg3.c3
  have c44 := rg4.c4
  have i1 : (n : Int) < 64 := by omega
  have HO : Hid (w1.ownsRow F 65 1 (.slice a n c) n xs) := hown1
  clear hown1
  go_enter_defers Try.func26, Try.ntmps26
  go_wp2_with fail
  refine (unlock_held Try.muLib ⟨k, 0, none⟩ _ k0 kf0).mono ?_
  rintro e w' ⟨rfl, rfl⟩
  go_wp2_with fail
  refine (lock_free Try.muLib ⟨R, 1, none⟩ _ c1 f1).mono ?_
  rintro e w' ⟨rfl, rfl⟩
  go_wp2_with (at_builtin; refine wpList_append_own _ rfl _ _ 52 rfl F 65 i0 (.pointer none) 1 8 Try.underlying52 hi hz0 hz1 hz2 rfl (by decide) _ _ _ rfl (HO.out.alloc _) ⟨w1.heap.size, 0, none⟩ 1 1 [.pointer (some ⟨k, 0, none⟩)] rfl rfl ?c1 ?c2 ?c3 ?c4 ?c5 ?_)
  case c1 =>
    intro j u hj
    match j, hj with
    | 0, hj => simp at hj; subst hj; simp [Addr.add]
  case c2 => intro u hu; simp at hu; subst hu; rfl
  case c3 => unfold maxLen; omega
  case c4 => omega
  case c5 => simp; omega
  intro v' w2 hown2 hgrow _
  have hex : ∃ g cap, v' = .slice (some ⟨g, 0, none⟩) (n + 1) cap := by
    obtain ⟨_, h2 | ⟨g, cap, cur, hv, _⟩⟩ := hown2
    · omega
    · exact ⟨g, cap, hv⟩
  have rg5 : RG w2 R 1 (some M) (.slice a n c) := (rg4.alloc _).of_block (hgrow.block _ (by have := rg4.lt; simp; omega) (fun e => (row_ne hown (g := R) e.symm).2.1 _ _ _ _ rg rfl))
  have c54 := rg5.c4; have f54 := rg5.fz 4
  obtain ⟨g', cap', hv⟩ := hex
  rw [hv]
  have HV : Hid (v' = .slice (some ⟨g', 0, none⟩) (n + 1) cap') := hv
  clear hv
  go_wp2_with fail
  have rg6 := rg5.set4 (.slice (some ⟨g', 0, none⟩) (n + 1) cap')
  refine leaves_cons (f := 33) (args := #[.pointer (some ⟨R, 1, none⟩)]) (by simp) (by simp [go_sem]) ?_
  refine (unlock_deferred Try.muLib ⟨R, 1, none⟩ .returning _ rg6.c1 (rg6.fz 1)).mono ?_
  rintro e u' w'' ⟨rfl, rfl, rfl⟩
  refine ⟨_, results_none rfl _ _ _, w1, w2, v', rfl, mp4, ht, hown2, hgrow, ?_⟩
  rw [HV.out]

theorem row_shape {w : World} {F n : Nat} {fv : Value} {xs : List Value} (h : w.ownsRow F 65 1 fv n xs) : ∃ a c, fv = .slice a n c := by
  obtain ⟨_, h2 | ⟨g, cap, cur, hv, _⟩⟩ := h
  · exact ⟨none, 0, by rw [h2.1, h2.2]⟩
  · exact ⟨some ⟨g, 0, none⟩, cap, hv⟩

/-- The free locks behind an unlock of k: k put behind them, unless there are 64. -/
def freed (free : List Nat) (k : Nat) : List Nat := if free.length < 64 then free ++ [k] else free

set_option maxHeartbeats 1000000 in
/-- unlock, on the registry's state: the key that was locked last. -/
theorem unlock_any (B F R M k : Nat) (fv : Value) (held : List (ByteArray × Nat)) (free : List Nat) (key : ByteArray) (w : World) (st : St w B F R (some M) fv (held ++ [(key, k)]) free) (hs : key.size ≤ maxLen) (hn : look held key = none) (hfl : free.length ≤ 64) (hF : F ≤ w.heap.size) :
    Calls Try.prog 26 #[.pointer (some ⟨R, 1, none⟩), .string key, .pointer (some ⟨k, 0, none⟩)] w fun e w' => ∃ fv', e = .returned (.tuple #[]) ∧ St w' B F R (some M) fv' held (freed free k) ∧ Turn (fun b => b = R ∨ b = M ∨ b = k ∨ fv.ownBlock = some b) w w' := by
  obtain ⟨a, c, rfl⟩ := row_shape st.fr
  have hk := (st.hk (key, k) (by simp)).1
  have hkB := (st.hk (key, k) (by simp)).2
  have hmp : B ≤ M ∧ MapIs w M (held ++ [(key, k)]) := by
    rcases st.mp with ⟨h, _⟩ | ⟨M', h, h1, h2⟩
    · cases h
    · cases h; exact ⟨h1, h2⟩
  obtain ⟨hMB, mp⟩ := hmp
  have hRM := st.rg.ne_map mp
  have hkM := hk.ne_map mp
  have hkR := hk.ne_reg st.rg
  have nd := st.nd
  rw [List.map_append, List.append_assoc] at nd
  have ndk : ∀ p ∈ held, p.2 ≠ k := by
    intro p hp e
    rw [List.nodup_append] at nd
    exact nd.2.2 p.2 (List.mem_map.2 ⟨p, hp, rfl⟩) k (by simp) e
  have ndf : ∀ j ∈ free, j ≠ k := by
    intro j hj e
    rw [List.nodup_append] at nd
    have h2 := nd.2.1
    rw [List.nodup_append] at h2
    exact h2.2.2 k (by simp) j hj e.symm
  have ndN : (held.map (·.2) ++ free).Nodup := by
    rw [List.nodup_append] at nd ⊢
    have h2 := nd.2.1
    rw [List.nodup_append] at h2
    exact ⟨nd.1, h2.2.1, fun x hx y hy => nd.2.2 x hx y (by simp [hy])⟩
  have T0 : Turn (fun b => b = R ∨ b = M ∨ b = k ∨ (Value.slice a free.length c).ownBlock = some b) w (((w.setCell ⟨k, 0, none⟩ (.int .i32 0)).setCell ⟨R, 1, none⟩ (.int .i32 1)).setCell ⟨k, 2, none⟩ (.int .i64 0)) :=
    (((Turn.refl _ w).setCell (.inr (.inr (.inr (.inl rfl)))) _).setCell (.inr (.inl rfl)) _).setCell (.inr (.inr (.inr (.inl rfl)))) _
  have rg3 := ((st.rg.other (p := ⟨k, 0, none⟩) (fun e => hkR e.symm) (.int .i32 0)).set1 1).other (p := ⟨k, 2, none⟩) (fun e => hkR e.symm) (.int .i64 0)
  have kl3 := ((hk.set0 0).other (p := ⟨R, 1, none⟩) hkR (.int .i32 1)).set2 0
  by_cases h64 : free.length < 64
  · refine (unlockU2 R M k free.length c F a (free.map ptr) key held w st.rg h64 hk st.fr hF mp hs hn).mono ?_
    rintro e w' ⟨w1, w2, v', rfl, mp1, ht, hown2, hgrow, rfl⟩
    have T1 := (T0.grown ht.grown (fun j e => by cases e; exact .inr (.inr (.inl rfl)))).alloc (.cells #[.pointer (some ⟨k, 0, none⟩)] 65)
    have T2 := T1.grown hgrow (fun j e => .inr (.inr (.inr (.inr e))))
    have T := (T2.setCell (p := ⟨R, 4, none⟩) (.inr (.inl rfl)) v').setCell (p := ⟨R, 1, none⟩) (.inr (.inl rfl)) (.int .i32 0)
    have hsz1 := ht.grown.size
    simp only [World.size_setCell] at hsz1
    -- the blocks that the append leaves
    have hold : ∀ b, b < w.heap.size → some b ≠ (Value.slice a free.length c).ownBlock → b ≠ R → b ≠ M → b ≠ k → ((w2.setCell ⟨R, 4, none⟩ v').setCell ⟨R, 1, none⟩ (.int .i32 0)).heap[b]? = w.heap[b]? := by
      intro b hb h1 h2 h3 h4
      rw [Below.heap_setCell _ _ _ _ (by exact h2), Below.heap_setCell _ _ _ _ (by exact h2), hgrow.block b (by simp; omega) h1, Below.heap_alloc _ _ _ (by omega),
        ht.grown.block b (by simpa using hb) (fun e => h3 (Option.some.inj e)), Below.heap_setCell _ _ _ _ (by exact h4), Below.heap_setCell _ _ _ _ (by exact h2), Below.heap_setCell _ _ _ _ (by exact h4)]
    have rg4 : RG w1 R 1 (some M) (.slice a free.length c) := rg3.of_block (ht.grown.block _ rg3.lt (fun e => hRM (Option.some.inj e)))
    have hRrow : some R ≠ (Value.slice a free.length c).ownBlock := fun e => (row_ne st.fr (g := R) e.symm).2.1 _ _ _ _ st.rg rfl
    have hMrow : some M ≠ (Value.slice a free.length c).ownBlock := fun e => (row_ne st.fr (g := M) e.symm).2.2 _ _ mp rfl
    have hKrow : ∀ j s u, KL w j s u → some j ≠ (Value.slice a free.length c).ownBlock := fun j s u h e => (row_ne st.fr (g := j) e.symm).1 _ _ _ h rfl
    have rg5 : RG w2 R 1 (some M) (.slice a free.length c) := (rg4.alloc _).of_block (hgrow.block _ (by have := rg4.lt; simp; omega) hRrow)
    have rg' := (rg5.set4 v').set1 0
    have mpl : M < w1.heap.size := by obtain ⟨es, cl, hb⟩ := mp1.isMap; exact (Array.getElem?_eq_some_iff.1 hb).1
    have mp' : MapIs ((w2.setCell ⟨R, 4, none⟩ v').setCell ⟨R, 1, none⟩ (.int .i32 0)) M held := mp1.of_block (by
      rw [Below.heap_setCell _ _ _ _ (by exact fun e => hRM e.symm), Below.heap_setCell _ _ _ _ (by exact fun e => hRM e.symm), hgrow.block M (by simp; omega) hMrow, Below.heap_alloc _ _ _ mpl])
    have kl4 : KL w1 k 0 0 := kl3.of_block (ht.grown.block _ kl3.lt (fun e => hkM (Option.some.inj e)))
    have kl' : KL ((w2.setCell ⟨R, 4, none⟩ v').setCell ⟨R, 1, none⟩ (.int .i32 0)) k 0 0 := (((kl4.alloc _).of_block (hgrow.block k (by have := kl4.lt; simp; omega) (hKrow _ _ _ hk))).other (p := ⟨R, 4, none⟩) hkR v').other (p := ⟨R, 1, none⟩) hkR (.int .i32 0)
    have hg2ne : ∀ g, v'.ownBlock = some g → g ≠ R := by
      intro g hg e
      obtain ⟨_, h2 | ⟨g', cap', cur', hv', _, hh', _⟩⟩ := hown2
      · omega
      · rw [hv'] at hg; simp [Value.ownBlock] at hg; subst hg; subst e
        obtain ⟨c', hc', _⟩ := rg5.blk; rw [hc'] at hh'; simp at hh'
    have hkeep : ∀ j s u, KL w j s u → j ≠ k → KL ((w2.setCell ⟨R, 4, none⟩ v').setCell ⟨R, 1, none⟩ (.int .i32 0)) j s u := fun j s u h hne =>
      h.of_block (hold j h.lt (hKrow _ _ _ h) (h.ne_reg st.rg) (h.ne_map mp) hne)
    refine ⟨v', rfl, ⟨rg', st.rB, .inr ⟨M, rfl, hMB, mp'⟩, ?_, ?_, ?_, ?_⟩, T⟩
    · unfold freed
      rw [if_pos h64, List.length_append, List.map_append]
      exact row_of_block hown2 (fun g hg => by
        rw [Below.heap_setCell _ _ _ _ (by exact hg2ne g hg), Below.heap_setCell _ _ _ _ (by exact hg2ne g hg)])
    · intro p hp
      have h := st.hk p (by simp [hp])
      exact ⟨hkeep _ _ _ h.1 (ndk p hp), h.2⟩
    · unfold freed
      rw [if_pos h64]
      intro j hj
      rw [List.mem_append] at hj
      rcases hj with hj | hj
      · have h := st.fk j hj
        exact ⟨hkeep _ _ _ h.1 (ndf j hj), h.2⟩
      · simp at hj; subst hj; exact ⟨kl', hkB⟩
    · unfold freed
      rw [if_pos h64]
      have hp : (held.map (·.2) ++ ([(key, k)].map (·.2) ++ free)).Perm (held.map (·.2) ++ (free ++ [k])) := by
        refine List.Perm.append_left _ ?_
        simpa using (List.perm_append_comm (l₁ := [k]) (l₂ := free))
      exact hp.nodup nd
  · refine (unlockU1 R M k free.length c a key held w st.rg (by omega) (by omega) hk mp hs hn).mono ?_
    rintro e w' ⟨w1, rfl, mp1, ht, rfl⟩
    have T1 := T0.grown ht.grown (fun j e => by cases e; exact .inr (.inr (.inl rfl)))
    have T := T1.setCell (p := ⟨R, 1, none⟩) (.inr (.inl rfl)) (.int .i32 0)
    have hold : ∀ b, b < w.heap.size → b ≠ R → b ≠ M → b ≠ k → (w1.setCell ⟨R, 1, none⟩ (.int .i32 0)).heap[b]? = w.heap[b]? := by
      intro b hb h2 h3 h4
      rw [Below.heap_setCell _ _ _ _ (by exact h2),
        ht.grown.block b (by simpa using hb) (fun e => h3 (Option.some.inj e)), Below.heap_setCell _ _ _ _ (by exact h4), Below.heap_setCell _ _ _ _ (by exact h2), Below.heap_setCell _ _ _ _ (by exact h4)]
    have rg4 : RG w1 R 1 (some M) (.slice a free.length c) := rg3.of_block (ht.grown.block _ rg3.lt (fun e => hRM (Option.some.inj e)))
    have hkeep : ∀ j s u, KL w j s u → j ≠ k → KL (w1.setCell ⟨R, 1, none⟩ (.int .i32 0)) j s u := fun j s u h hne =>
      h.of_block (hold j h.lt (h.ne_reg st.rg) (h.ne_map mp) hne)
    have mp' : MapIs (w1.setCell ⟨R, 1, none⟩ (.int .i32 0)) M held := mp1.of_block (Below.heap_setCell _ _ _ _ (by exact fun e => hRM e.symm))
    refine ⟨.slice a free.length c, rfl, ⟨rg4.set1 0, st.rB, .inr ⟨M, rfl, hMB, mp'⟩, ?_, ?_, ?_, ?_⟩, T⟩
    · unfold freed
      rw [if_neg h64]
      exact row_of_block st.fr (fun g hg => by
        have hne := row_ne st.fr hg
        exact hold g (row_lt st.fr hg) (hne.2.1 _ _ _ _ st.rg) (hne.2.2 _ _ mp) (hne.1 _ _ _ hk))
    · intro p hp
      have h := st.hk p (by simp [hp])
      exact ⟨hkeep _ _ _ h.1 (ndk p hp), h.2⟩
    · unfold freed
      rw [if_neg h64]
      intro j hj
      have h := st.fk j hj
      exact ⟨hkeep _ _ _ h.1 (ndf j hj), h.2⟩
    · unfold freed
      rw [if_neg h64]
      exact ndN
end Go.Proofs.Qxb6616406a.Rg
