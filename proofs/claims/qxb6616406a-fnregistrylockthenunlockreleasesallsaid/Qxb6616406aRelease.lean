/-
  The function that (*registry).lock hands back, at seat b6616406a's dump: all that was locked is unlocked, from the last to the first.
-/
import Derived.Test.Qxb6616406aBack
namespace Go.Proofs.Qxb6616406a.Rg
open Go.RowKit Go.Maps Go.Shelf
open Go.MuLone
set_option linter.unusedVariables false
attribute [local go_sem] Oper.semAt_some

theorem zip_snoc {α β : Type} : ∀ (m : Nat) (xs : List α) (ys : List β) (x : α) (y : β), xs[m]? = some x → ys[m]? = some y → (xs.take (m + 1)).zip ys = (xs.take m).zip ys ++ [(x, y)]
  | 0, x' :: xs, y' :: ys, x, y, h1, h2 => by simp at h1 h2; subst h1; subst h2; simp
  | m + 1, x' :: xs, y' :: ys, x, y, h1, h2 => by
    have := zip_snoc m xs ys x y (by simpa using h1) (by simpa using h2)
    simp only [List.take_succ_cons, List.zip_cons_cons, List.cons_append, this]
  | 0, [], _, _, _, h1, _ => by simp at h1
  | _ + 1, [], _, _, _, h1, _ => by simp at h1
  | 0, _ :: _, [], _, _, _, h2 => by simp at h2
  | _ + 1, _ :: _, [], _, _, _, h2 => by simp at h2

/-- The registry's state rests on its cells and on its map. -/
theorem St.rest {w w' : World} {B F R : Nat} {mref : Option Nat} {fv : Value} {held : List (ByteArray × Nat)} {free : List Nat} (st : St w B F R mref fv held free)
    (e : ∀ b, b < w.heap.size → ((∃ c t f, w.heap[b]? = some (.cells c t f)) ∨ mref = some b) → w'.heap[b]? = w.heap[b]?) : St w' B F R mref fv held free := by
  have ek : ∀ {k s u}, KL w k s u → KL w' k s u := fun h => h.of_block (e _ h.lt (.inl ⟨_, _, _, h⟩))
  refine ⟨st.rg.of_block (e _ st.rg.lt (.inl ?_)), st.rB, ?_, row_of_block st.fr (fun g hg => e g (row_lt st.fr hg) (.inl ?_)), fun p hp => ⟨ek (st.hk p hp).1, (st.hk p hp).2⟩, fun k hk => ⟨ek (st.fk k hk).1, (st.fk k hk).2⟩, st.nd⟩
  · obtain ⟨c, hc, _⟩ := st.rg.blk; exact ⟨_, _, _, hc⟩
  · rcases st.mp with h | ⟨M, h1, h2, h3⟩
    · exact .inl h
    · obtain ⟨es, cl, hb⟩ := h3.isMap
      exact .inr ⟨M, h1, h2, h3.of_block (e M (Array.getElem?_eq_some_iff.1 hb).1 (.inr h1))⟩
  · obtain ⟨_, h2 | ⟨g', cap, cur, hv, _, hh, _⟩⟩ := st.fr
    · rw [h2.1] at hg; simp [Value.ownBlock] at hg
    · rw [hv] at hg; simp [Value.ownBlock] at hg; subst hg; exact ⟨_, _, _, hh⟩

/-- The nil row lies at whatever base. -/
theorem St.rebase {w : World} {B F R : Nat} {mref : Option Nat} {held : List (ByteArray × Nat)} (st : St w B F R mref (.slice none 0 0) held []) (F' : Nat) : St w B F' R mref (.slice none 0 0) held [] :=
  ⟨st.rg, st.rB, st.mp, ⟨by simp, .inl ⟨rfl, rfl⟩⟩, st.hk, st.fk, st.nd⟩

/-- The state behind j rounds. -/
structure RInv (w w₁ : World) (B R : Nat) (mref : Option Nat) (keys : List ByteArray) (ks : List Nat) (j : Nat) (W : World) (fv : Value) (free : List Nat) : Prop where
  st : St W B w₁.heap.size R mref fv ((keys.take (keys.length - j)).zip ks) free
  fl : free.length = min j 64
  sm : Same w₁ w₁ W
  bl : Below B w W
  sz : w₁.heap.size ≤ W.heap.size

theorem RInv.own {w w₁ : World} {B R : Nat} {mref : Option Nat} {keys : List ByteArray} {ks : List Nat} (hB : B ≤ w.heap.size) (hw : w.heap.size ≤ w₁.heap.size) (hM : ∀ M, mref = some M → M < w₁.heap.size) :
    OwnFrom w₁.heap.size (fun j W => ∃ fv free, RInv w w₁ B R mref keys ks j W fv free) := by
  rintro j A C row ⟨fv, free, h⟩ hg hr
  refine ⟨fv, free, h.st.rest (fun b hb hc => hg.block b hb (fun e => ?_)), h.fl, fun b hb ho => ?_, h.bl.grown hg (Nat.le_trans hB h.bl.size) (fun k e => ?_), Nat.le_trans h.sz hg.size⟩
  · obtain ⟨hge, o, ho, hoc⟩ := hr b e.symm
    rcases hc with ⟨c, t, f, hc⟩ | hm
    · rw [hc] at ho; cases ho; simp [Obj.isCells] at hoc
    · have := hM b hm; omega
  · rw [hg.block b (by have := h.sz; omega) (fun e => by have := (hr b e.symm).1; omega)]; exact h.sm b hb ho
  · have := (hr k e).1; omega

/-- One round, behind the unlock. -/
theorem RInv.step {w w₁ : World} {B R M k : Nat} {keys : List ByteArray} {ks : List Nat} {j : Nat} {W w2 : World} {fv fv2 : Value} {free : List Nat} (I : RInv w w₁ B R (some M) keys ks j W fv free) (hw : Below B w w₁) (hBw : B ≤ w.heap.size) (hM : M < w₁.heap.size) (hj : j < keys.length)
    (hk : (∃ s u, KL W k s u) ∧ B ≤ k) (hMb : B ≤ M ∧ ∃ es c, W.heap[M]? = some (.map es c))
    (st2 : St w2 B w₁.heap.size R (some M) fv2 ((keys.take (keys.length - (j + 1))).zip ks) (freed free k)) (T : Turn (fun b => b = R ∨ b = M ∨ b = k ∨ fv.ownBlock = some b) W.drew w2) :
    KeepsFrom w₁.heap.size W w2 ∧ Same w₁ W w2 ∧ RInv w w₁ B R (some M) keys ks (j + 1) w2 fv2 (freed free k) := by
  have hrow : ∀ g, fv.ownBlock = some g → w₁.heap.size ≤ g ∧ ∃ c t f, W.heap[g]? = some (.cells c t f) := by
    intro g hg
    refine ⟨(I.st.fr.lt g hg).1, ?_⟩
    obtain ⟨_, h2 | ⟨g', cap, cur, hv, _, hh, _⟩⟩ := I.st.fr
    · rw [h2.1] at hg; simp [Value.ownBlock] at hg
    · rw [hv] at hg; simp [Value.ownBlock] at hg; subst hg; exact ⟨_, _, _, hh⟩
  have hsz : W.heap.size ≤ w2.heap.size := T.size
  have sm : Same w₁ W w2 := by
    intro b hb ho
    have hWb := I.sm b hb ho
    obtain ⟨c, t, f, hc, h63, h67⟩ := ho
    rw [hc] at hWb
    refine T.block b (by have := I.sz; show b < W.heap.size; omega) ?_
    rintro (e | e | e | e)
    · subst e; obtain ⟨c', hc', _⟩ := I.st.rg.blk; rw [hc'] at hWb; simp at hWb; exact h63 hWb.2.1.symm
    · subst e; obtain ⟨es, cl, hm⟩ := hMb.2; rw [hm] at hWb; simp at hWb
    · subst e; obtain ⟨s, u, hkl⟩ := hk.1; unfold KL at hkl; rw [hkl] at hWb; simp at hWb; exact h67 hWb.2.1.symm
    · have := (hrow b e).1; omega
  refine ⟨⟨hsz, ?_⟩, sm, ⟨st2, ?_, I.sm.trans sm, ?_, Nat.le_trans I.sz hsz⟩⟩
  · intro b o hb ho hoc
    refine (T.block b (Array.getElem?_eq_some_iff.1 ho).1 ?_).trans ho
    rintro (e | e | e | e)
    · subst e; obtain ⟨c', hc', _⟩ := I.st.rg.blk; rw [hc'] at ho; cases ho; simp [Obj.isCells] at hoc
    · omega
    · subst e; obtain ⟨s, u, hkl⟩ := hk.1; unfold KL at hkl; rw [hkl] at ho; cases ho; simp [Obj.isCells] at hoc
    · obtain ⟨_, c, t, f, hc⟩ := hrow b e; rw [hc] at ho; cases ho; simp [Obj.isCells] at hoc
  · have := I.fl
    unfold freed
    split
    · rw [List.length_append]; simp only [List.length_cons, List.length_nil]; omega
    · omega
  · have TB : Below B W.drew w2 := T.below (by have := I.bl.size; show B ≤ W.heap.size; omega) (by
      rintro b (e | e | e | e)
      · rw [e]; exact I.st.rB
      · rw [e]; exact hMb.1
      · rw [e]; exact hk.2
      · have := (hrow b e).1; have := hw.size; omega)
    exact ⟨TB.os.trans I.bl.os, TB.tape.trans I.bl.tape, TB.output.trans I.bl.output, Nat.le_trans I.bl.size TB.size, fun b hb => (TB.block b hb).trans (I.bl.block b hb)⟩

/-- No operation of the region is a defer statement. -/
def noDefer (ops : Array Oper) : Bool := ops.toList.all fun o => match o.op with | .defer _ => false | _ => true

theorem wpOpIn_inRound {F : Fence} {n : Nat} {P : Program} {ops : Array Oper} {Q : Exit → Act → World → Prop} {l i : Nat} (hro : F.round = none) (hd : noDefer ops = true) {K : Act → World → Prop} {a : Act} {w : World} (h : wpOpIn F n P ops Q i K a w) : wpOpIn (F.inRound l) n P ops Q i K a w := by
  unfold wpOpIn at h ⊢
  cases ho : ops[i]? with
  | none => rw [ho] at h; exact h
  | some o =>
    rw [ho] at h
    have hno : ∀ c, o.op ≠ .defer c := by
      intro c e
      have hm : o ∈ ops.toList := Array.mem_toList_iff.2 (Array.mem_of_getElem? ho)
      have := List.all_eq_true.1 hd o hm
      rw [e] at this
      cases this
    simp only at h ⊢
    split
    · rename_i hw
      rw [if_pos hw] at h
      unfold Oper.wpIn at h ⊢
      rw [hro, Oper.semAt_none] at h
      rw [Fence.inRound_round, Oper.semAt_some l _ o hno]
      refine ⟨h.1, ?_⟩
      have h2 := h.2
      generalize (execOp a.eval o).run P w = r at h2
      exact h2
    · rename_i hw
      rw [if_neg hw] at h
      exact h

/-- A region without a defer statement goes in a round as anywhere. -/
theorem wpAnyIn_inRound {F : Fence} {n : Nat} {P : Program} {ops : Array Oper} {Q : Exit → Act → World → Prop} {md : Region.Mode} {l : Nat} (hro : F.round = none) (hd : noDefer ops = true) :
    ∀ (fuel : Nat) (listed : Array Bool) (a : Act) (w : World), wpAnyIn F n P md ops Q fuel listed a w → wpAnyIn (F.inRound l) n P md ops Q fuel listed a w
  | 0, _, _, _, h => h
  | fuel + 1, listed, a, w, h => ⟨h.1, fun i hi => wpOpIn_inRound hro hd (wpOpIn_mono (fun a w h => wpAnyIn_inRound hro hd fuel _ a w h) (h.2 i hi))⟩

/-- What the function that lock hands back has behind it. -/
structure Released (w : World) (B F R : Nat) (mref : Option Nat) (a : Option Addr) (keys : List ByteArray) (w' : World) (fv : Value) (free : List Nat) : Prop where
  st : St w' B F R mref fv [] free
  fl : free.length = min keys.length 64
  bl : Below B w w'
  kr : KR w' a keys

set_option maxRecDepth 100000 in
set_option maxHeartbeats 4000000 in
theorem release (B R K P Tb Tr kc : Nat) (mref : Option Nat) (keys : List ByteArray) (ks : List Nat) (a : Option Addr) (w : World) (st : St w B w.heap.size R mref (.slice none 0 0) (keys.zip ks) []) (hB : B ≤ w.heap.size)
    (hnd : keys.Nodup) (hks : ∀ s ∈ keys, s.size ≤ maxLen) (hkn : keys.length ≤ 1048576) (hl : ks.length = keys.length)
    (bK : w.heap[K]? = some (.cells #[.slice a keys.length kc] 25 (0, 0))) (bP : w.heap[P]? = some (.cells #[.pointer (some ⟨R, 0, none⟩)] 29 (0, 0)))
    (bT : w.heap[Tb]? = some (.cells #[.slice (some ⟨Tr, 0, none⟩) keys.length keys.length] 52 (0, 0))) (row : w.rowIs Tr 65 keys.length (fun j => .pointer (some ⟨ks[j]?.getD 0, 0, none⟩))) (kr : KR w a keys) :
    Calls Try.prog 24 #[.pointer (some ⟨K, 0, none⟩), .pointer (some ⟨P, 0, none⟩), .pointer (some ⟨Tb, 0, none⟩)] w fun e w' => (∃ v, e = .returned v) ∧ ∃ fv free, Released w B (w.heap.size + 1) R mref a keys w' fv free := by
  have cK := cell_of_block bK
  have hM : ∀ M, mref = some M → M < w.heap.size + 1 := by
    intro M hM
    rcases st.mp with ⟨h, _⟩ | ⟨M', h1, h2, h3⟩
    · rw [h] at hM; cases hM
    · rw [h1] at hM; cases hM; obtain ⟨es, cl, hb⟩ := h3.isMap; have := (Array.getElem?_eq_some_iff.1 hb).1; omega
  obtain ⟨w₁, hw₁⟩ : ∃ w₁, w₁ = w.alloc (.cells #[.slice a keys.length kc] 25) := ⟨_, rfl⟩
  have sz₁ : w₁.heap.size = w.heap.size + 1 := by rw [hw₁]; simp
  have old : ∀ b, b < w.heap.size → w₁.heap[b]? = w.heap[b]? := fun b hb => by rw [hw₁]; exact Below.heap_alloc _ _ _ hb
  have lK := (Array.getElem?_eq_some_iff.1 bK).1
  have lP := (Array.getElem?_eq_some_iff.1 bP).1
  have lT := (Array.getElem?_eq_some_iff.1 bT).1
  have lR : Tr < w.heap.size := by obtain ⟨c, hc, _⟩ := row; exact (Array.getElem?_eq_some_iff.1 hc).1
  have bB : w₁.heap[w.heap.size]? = some (.cells #[.slice a keys.length kc] 25 (0, 0)) := by rw [hw₁]; exact heap_alloc_new w _
  have kr₁ : KR w₁ a keys := kr.of (fun kb hlt _ _ => old kb hlt)
  have oP : Off w₁ P := ⟨_, _, _, (old _ lP).trans bP, by decide, by decide⟩
  have oT : Off w₁ Tb := ⟨_, _, _, (old _ lT).trans bT, by decide, by decide⟩
  have oR : Off w₁ Tr := by obtain ⟨c, hc, _⟩ := row; exact ⟨_, _, _, (old _ lR).trans hc, by decide, by decide⟩
  have blw : Below B w w₁ := by rw [hw₁]; exact (Below.refl _ w).alloc hB _
  have I0 : RInv w w₁ B R mref keys ks 0 w₁ (.slice none 0 0) [] := by
    refine ⟨?_, rfl, Same.refl _ _, blw, Nat.le_refl _⟩
    rw [Nat.sub_zero, List.take_of_length_le (Nat.le_refl _)]
    exact (st.rest (fun b hb _ => old b hb)).rebase _
  have HI0 : Hid _ := I0
  clear I0
  refine (callsIn_wide (n := 3)).1 ?_
  refine callsIn_of_wp_marks Try.func24 rfl trivial ?_ rfl
  simp only [Try.ntmps24, List.size_toArray, List.length_cons, List.length_nil, Nat.reduceAdd, Nat.reduceSub, Array.replicate_succ, Array.replicate_zero, List.push_toArray, List.append_toArray, List.nil_append, List.cons_append]
  gi_wp2_with (refine ⟨trivial, ?_⟩; gi_at_call 25; refine (backward _ _ _ _ _).mono ?_; rintro e w' ⟨rfl, rfl⟩)
  rw [← hw₁]
  refine wpIn_rangeFunc_next rfl (by omega) (gf := 34) (lb := #[.pointer (some ⟨w.heap.size, 0, none⟩)]) rfl trivial (enters_of Try.func34 (by kernel_rfl) rfl) keys.length (nth keys) (Kp := Same w₁) (fun h k => h.trans k)
    (fun W l o o' hl _ _ => Same.putObj W l o' hl) (fun _ => rfl) (fun l J W hW hY h0 => back34 _ l w.heap.size kc a keys hkn w₁ bB kr₁ J W hW hY h0)
    (fun j W => ∃ fv free, RInv w w₁ B R mref keys ks j W fv free) (RInv.own hB (by omega) (fun M h => by have := hM M h; omega)) ⟨_, _, HI0.out⟩
    (fun j => { tmps := #[.pointer (some ⟨K, 0, none⟩), .pointer (some ⟨P, 0, none⟩), .pointer (some ⟨Tb, 0, none⟩), .int .i64 ((keys.length : Int) - 1 - j), .string (keys[keys.length - 1 - j]?.getD ⟨#[]⟩), .slice a keys.length kc, .func (.func 34) #[] #[.pointer (some ⟨w.heap.size, 0, none⟩)], .int .i64 ((keys.length : Int) - 1 - j), .string (keys[keys.length - 1 - j]?.getD ⟨#[]⟩), undef, undef, undef, undef, undef, undef, undef, undef, undef], defers := [] }) ?assign ?body ?done
  case assign =>
    intro l j W K hj hK
    unfold nth
    gi_wp2
    exact hK
  case body =>
    rintro l j W hj ⟨fv, free, I⟩
    obtain ⟨i, hi, hin⟩ : ∃ i : Nat, keys.length - j = i + 1 ∧ i < keys.length := ⟨keys.length - 1 - j, by omega, by omega⟩
    have hiI : (keys.length : Int) - 1 - j = (i : Int) := by omega
    have hiN : keys.length - 1 - j = i := by omega
    have hi' : keys.length - (j + 1) = i := by omega
    obtain ⟨key, hkey⟩ : ∃ key, keys[i]? = some key := ⟨_, List.getElem?_eq_getElem hin⟩
    obtain ⟨k, hk⟩ : ∃ k, ks[i]? = some k := ⟨_, List.getElem?_eq_getElem (by omega)⟩
    have ez := zip_snoc i keys ks key k hkey hk
    have hst := I.st
    rw [hi, ez] at hst
    obtain ⟨M, rfl⟩ : ∃ M, mref = some M := by
      rcases hst.mp with ⟨_, h, _⟩ | ⟨M, h, _⟩
      · simp at h
      · exact ⟨M, h⟩
    have hmp : B ≤ M ∧ ∃ es c, W.heap[M]? = some (.map es c) := by
      rcases hst.mp with ⟨h, _⟩ | ⟨M', h, h1, h2⟩
      · cases h
      · cases h; exact ⟨h1, h2.isMap⟩
    have hkl := hst.hk (key, k) (by simp)
    have cP : W.cell? ⟨P, 0, none⟩ = some (.pointer (some ⟨R, 0, none⟩)) := cell_of_block ((I.sm P (by omega) oP).trans ((old _ lP).trans bP))
    have cT : W.cell? ⟨Tb, 0, none⟩ = some (.slice (some ⟨Tr, 0, none⟩) keys.length keys.length) := cell_of_block ((I.sm Tb (by omega) oT).trans ((old _ lT).trans bT))
    have cR := (row.of_block ((I.sm Tr (by omega) oR).trans (old _ lR))).cell hin
    rw [hk, Option.getD_some] at cR
    have hnl : look ((keys.take i).zip ks) key = none := by
      refine look_zip_none _ _ _ (fun hm => ?_)
      have hke : keys[i] = key := by have := List.getElem?_eq_getElem hin; rw [this] at hkey; exact Option.some.inj hkey
      obtain ⟨i', hi1, he⟩ := List.getElem_of_mem hm
      rw [List.length_take] at hi1
      rw [List.getElem_take] at he
      have := (List.getElem_inj (h₀ := by omega) (h₁ := hin) hnd).1 (he.trans hke.symm)
      omega
    have hks' := hks key (List.mem_of_getElem? hkey)
    have hfl : free.length ≤ 64 := by have := I.fl; omega
    have fin : ∀ fv2 w2, St w2 B w₁.heap.size R (some M) fv2 ((keys.take i).zip ks) (freed free k) → Turn (fun b => b = R ∨ b = M ∨ b = k ∨ fv.ownBlock = some b) W.drew w2 →
        KeepsFrom w₁.heap.size W w2 ∧ Same w₁ W w2 ∧ RInv w w₁ B R (some M) keys ks (j + 1) w2 fv2 (freed free k) := fun fv2 w2 st2 T =>
      I.step blw hB (by have := hM M rfl; omega) hj ⟨⟨_, _, hkl.1⟩, hkl.2⟩ hmp (by rw [hi']; exact st2) T
    have hIsz := I.sz
    have hgd : keys[i]?.getD ⟨#[]⟩ = key := by rw [hkey]; rfl
    have HST : Hid _ := hst
    have HI : Hid _ := I
    have HFIN : Hid _ := fin
    have HNL : Hid _ := hnl
    clear hst I fin hnl ez hkl hmp hkey hk st HI0 bK bP bT row kr kr₁ bB oP oT oR cK blw
    have hmx : Try.prog.follows .mixedOrders = true := by kernel_rfl
    have hinI : (i : Int) < (keys.length : Int) := by omega
    rw [hiI, hiN]
    rw [hgd]
    gi_wp2_with fail
    refine wpIn_region_any hmx ?_
    refine wpAnyIn_inRound rfl (by kernel_rfl) _ _ _ _ ?_
    change wpAnyIn _ _ _ _ _ _ _ _ _ (World.drew _)
    refine wpAnyIn_take (i := 3) (v := .string key) rfl rfl (by kernel_rfl) (by kernel_rfl) (by kernel_rfl) (fun _ _ _ h => h) ⟨Or.inl ⟨by rfl, fun w => by go_simp⟩, fun _ => rfl⟩ ?_
    refine wpAnyIn_take (i := 5) (v := .int .i64 i) rfl rfl (by kernel_rfl) (by kernel_rfl) (by kernel_rfl) (fun _ _ _ h => h) ⟨Or.inl ⟨by rfl, fun w => by go_simp⟩, fun _ => rfl⟩ ?_
    refine wpAnyIn_ready (rs := [0, 4]) (by kernel_rfl) (by simp) (AllReadyIn.cons rfl (fun K hK => ?_) (AllReadyIn.cons rfl (fun K hK => ?_) AllReadyIn.nil))
    · skip
      go_simp
      refine hK _ _ ?_
      clear hK K
      refine wpAnyIn_take (i := 1) (v := .pointer (some ⟨R, 0, none⟩)) rfl rfl (by kernel_rfl) (by kernel_rfl) (by kernel_rfl) (fun _ _ _ h => h) ⟨Or.inl ⟨by rfl, fun w => by go_simp⟩, fun _ => rfl⟩ ?_
      refine wpAnyIn_take (i := 2) (v := .pointer (some ⟨R, 1, none⟩)) rfl rfl (by kernel_rfl) (by kernel_rfl) (by kernel_rfl) (fun _ _ _ h => h) ⟨Or.inl ⟨by rfl, fun w => by go_simp⟩, fun _ => rfl⟩ ?_
      refine wpAnyIn_ready (rs := [4]) (by kernel_rfl) (by simp) (AllReadyIn.cons rfl (fun K hK => ?_) AllReadyIn.nil)
      go_simp
      refine hK _ _ ?_
      clear hK K
      refine wpAnyIn_take (i := 6) (v := .pointer (some ⟨Tr, i, none⟩)) rfl rfl (by kernel_rfl) (by kernel_rfl) (by kernel_rfl) (fun _ _ _ h => h) ⟨Or.inl ⟨by rfl, fun w => by go_simp⟩, fun _ => rfl⟩ ?_
      refine wpAnyIn_ready (rs := [7]) (by kernel_rfl) (by simp) (AllReadyIn.cons rfl (fun K hK => ?_) AllReadyIn.nil)
      go_simp
      refine hK _ _ ?_
      clear hK K
      refine wpAnyIn_ready (rs := [8]) (by kernel_rfl) (by simp) (AllReadyIn.cons rfl (fun K hK => ?_) AllReadyIn.nil)
      go_simp
      gi_wp2_with ((with_reducible refine And.intro ?_ ?_); exact trivial; gi_at_call 26; refine (callsIn_wide.2 (unlock_any B w₁.heap.size R M k fv ((keys.take i).zip ks) free key _ ?_ hks' HNL.out hfl ?_)).mono ?_; exact HST.out.drew; exact hIsz; rintro e w2 ⟨fv2, rfl, st2, T⟩; have X : Hid (KeepsFrom w₁.heap.size W w2 ∧ Same w₁ W w2 ∧ RInv w w₁ B R (some M) keys ks (j + 1) w2 fv2 (freed free k)) := HFIN.out fv2 w2 st2 T; clear st2 T)
      refine wpAnyIn_done (by kernel_rfl) ?_ _
      exact ⟨X.out.1, X.out.2.1, _, _, X.out.2.2⟩
    · skip
      go_simp
      refine hK _ _ ?_
      clear hK K
      refine wpAnyIn_take (i := 6) (v := .pointer (some ⟨Tr, i, none⟩)) rfl rfl (by kernel_rfl) (by kernel_rfl) (by kernel_rfl) (fun _ _ _ h => h) ⟨Or.inl ⟨by rfl, fun w => by go_simp⟩, fun _ => rfl⟩ ?_
      refine wpAnyIn_ready (rs := [0, 7]) (by kernel_rfl) (by simp) (AllReadyIn.cons rfl (fun K hK => ?_) (AllReadyIn.cons rfl (fun K hK => ?_) AllReadyIn.nil))
      · skip
        go_simp
        refine hK _ _ ?_
        clear hK K
        refine wpAnyIn_take (i := 1) (v := .pointer (some ⟨R, 0, none⟩)) rfl rfl (by kernel_rfl) (by kernel_rfl) (by kernel_rfl) (fun _ _ _ h => h) ⟨Or.inl ⟨by rfl, fun w => by go_simp⟩, fun _ => rfl⟩ ?_
        refine wpAnyIn_take (i := 2) (v := .pointer (some ⟨R, 1, none⟩)) rfl rfl (by kernel_rfl) (by kernel_rfl) (by kernel_rfl) (fun _ _ _ h => h) ⟨Or.inl ⟨by rfl, fun w => by go_simp⟩, fun _ => rfl⟩ ?_
        refine wpAnyIn_ready (rs := [7]) (by kernel_rfl) (by simp) (AllReadyIn.cons rfl (fun K hK => ?_) AllReadyIn.nil)
        go_simp
        refine hK _ _ ?_
        clear hK K
        refine wpAnyIn_ready (rs := [8]) (by kernel_rfl) (by simp) (AllReadyIn.cons rfl (fun K hK => ?_) AllReadyIn.nil)
        go_simp
        gi_wp2_with ((with_reducible refine And.intro ?_ ?_); exact trivial; gi_at_call 26; refine (callsIn_wide.2 (unlock_any B w₁.heap.size R M k fv ((keys.take i).zip ks) free key _ ?_ hks' HNL.out hfl ?_)).mono ?_; exact HST.out.drew; exact hIsz; rintro e w2 ⟨fv2, rfl, st2, T⟩; have X : Hid (KeepsFrom w₁.heap.size W w2 ∧ Same w₁ W w2 ∧ RInv w w₁ B R (some M) keys ks (j + 1) w2 fv2 (freed free k)) := HFIN.out fv2 w2 st2 T; clear st2 T)
        refine wpAnyIn_done (by kernel_rfl) ?_ _
        exact ⟨X.out.1, X.out.2.1, _, _, X.out.2.2⟩
      · skip
        go_simp
        refine hK _ _ ?_
        clear hK K
        refine wpAnyIn_ready (rs := [0]) (by kernel_rfl) (by simp) (AllReadyIn.cons rfl (fun K hK => ?_) AllReadyIn.nil)
        go_simp
        refine hK _ _ ?_
        clear hK K
        refine wpAnyIn_take (i := 1) (v := .pointer (some ⟨R, 0, none⟩)) rfl rfl (by kernel_rfl) (by kernel_rfl) (by kernel_rfl) (fun _ _ _ h => h) ⟨Or.inl ⟨by rfl, fun w => by go_simp⟩, fun _ => rfl⟩ ?_
        refine wpAnyIn_take (i := 2) (v := .pointer (some ⟨R, 1, none⟩)) rfl rfl (by kernel_rfl) (by kernel_rfl) (by kernel_rfl) (fun _ _ _ h => h) ⟨Or.inl ⟨by rfl, fun w => by go_simp⟩, fun _ => rfl⟩ ?_
        refine wpAnyIn_ready (rs := [8]) (by kernel_rfl) (by simp) (AllReadyIn.cons rfl (fun K hK => ?_) AllReadyIn.nil)
        go_simp
        gi_wp2_with ((with_reducible refine And.intro ?_ ?_); exact trivial; gi_at_call 26; refine (callsIn_wide.2 (unlock_any B w₁.heap.size R M k fv ((keys.take i).zip ks) free key _ ?_ hks' HNL.out hfl ?_)).mono ?_; exact HST.out.drew; exact hIsz; rintro e w2 ⟨fv2, rfl, st2, T⟩; have X : Hid (KeepsFrom w₁.heap.size W w2 ∧ Same w₁ W w2 ∧ RInv w w₁ B R (some M) keys ks (j + 1) w2 fv2 (freed free k)) := HFIN.out fv2 w2 st2 T; clear st2 T)
        refine wpAnyIn_done (by kernel_rfl) ?_ _
        exact ⟨X.out.1, X.out.2.1, _, _, X.out.2.2⟩
  case done =>
    rintro D W hD ⟨fv, free, I⟩ hK
    have hown := RInv.own (R := R) (keys := keys) (ks := ks) hB (show w.heap.size ≤ w₁.heap.size by omega) (fun M h => show M < w₁.heap.size by have := hM M h; omega)
    obtain ⟨fv', free', I'⟩ := hown.putObj (s := keys.length) (.deferred none) ⟨fv, free, I⟩ hD hK rfl
    gi_wp2
    refine ⟨by simp, .inl ⟨_, _, rfl, run_takeDeferred hK, ?_⟩⟩
    refine ⟨_, results_none rfl _ _ _, ⟨_, rfl⟩, fv', free', ?_, I'.fl, I'.bl, kr₁.same I'.sm⟩
    have := I'.st
    rw [Nat.sub_self, sz₁] at this
    exact this

end Go.Proofs.Qxb6616406a.Rg
