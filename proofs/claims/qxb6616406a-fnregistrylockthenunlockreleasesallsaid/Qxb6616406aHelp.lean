/-
  The small functions that the registry's law calls, at seat b6616406a's dump.
-/
import Derived.Test.Qxb6616406aRelease
import Derived.Handy
namespace Go.Proofs.Qxb6616406a.Rg
open Go.RowKit Go.Maps
open Go.MuLone
set_option linter.unusedVariables false

/-- A new registry's cells. -/
def zeroReg : Array Value := #[.pointer none, .int .i32 0, .int .u32 0, .map none, .slice none 0 0, .int .i32 0, .int .u32 0, .map none, .map none, .int .i32 0, .int .u32 0, .map none]

theorem newReg (w : World) : Calls Try.prog 11 #[] w fun e w' => e = .returned (.pointer (some ⟨w.heap.size, 0, none⟩)) ∧ w' = w.alloc (.cells zeroReg 63) := by
  unfold zeroReg
  go_enter Try.func11, Try.ntmps11
  go_wp2
  go_ret
  exact ⟨rfl, rfl⟩

theorem cell_at {w : World} {b i : Nat} {c : Array Value} {t : TypeId} {f : Nat × Nat} (h : w.heap[b]? = some (.cells c t f)) : w.cell? ⟨b, i, none⟩ = c[i]? := by
  unfold World.cell?
  rw [h]
  simp

theorem newReg_st (w : World) (B F : Nat) (hB : B ≤ w.heap.size) : St (w.alloc (.cells zeroReg 63)) B F w.heap.size none (.slice none 0 0) [] [] := by
  have hb := heap_alloc_new w (.cells zeroReg 63)
  refine ⟨⟨⟨_, hb, rfl⟩, ?_, ?_, ?_⟩, hB, .inl ⟨rfl, rfl, rfl⟩, ⟨by simp, .inl ⟨rfl, rfl⟩⟩, fun p hp => (by cases hp), fun k hk => (by cases hk), List.nodup_nil⟩
  · rw [cell_at hb]; rfl
  · rw [cell_at hb]; rfl
  · rw [cell_at hb]; rfl

theorem heldKeys {w : World} {B F R : Nat} {mref : Option Nat} {fv : Value} {held : List (ByteArray × Nat)} {free : List Nat} (st : St w B F R mref fv held free) :
    Calls Try.prog 13 #[.pointer (some ⟨R, 0, none⟩)] w fun e w' => e = .returned (.int .i64 held.length) ∧ w' = w := by
  have c3 := st.rg.c3
  rcases st.mp with ⟨rfl, rfl, _⟩ | ⟨M, rfl, _, hM⟩
  · clear st
    go_enter Try.func13, Try.ntmps13
    go_wp2
    go_ret
    exact ⟨rfl, rfl⟩
  · have hl := fun ty => hM.len ty
    clear st hM
    go_enter Try.func13, Try.ntmps13
    go_wp2
    go_ret
    exact ⟨rfl, rfl⟩

theorem freeLocks {w : World} {B F R : Nat} {mref : Option Nat} {fv : Value} {held : List (ByteArray × Nat)} {free : List Nat} (st : St w B F R mref fv held free) :
    Calls Try.prog 14 #[.pointer (some ⟨R, 0, none⟩)] w fun e w' => e = .returned (.int .i64 free.length) ∧ w' = w := by
  obtain ⟨a, c, hfv⟩ := row_shape st.fr
  have c4 := st.rg.c4
  rw [hfv] at c4
  clear st hfv
  go_enter Try.func14, Try.ntmps14
  go_wp2
  go_ret
  exact ⟨rfl, rfl⟩

theorem keyUsers0 {w : World} {B F R : Nat} {mref : Option Nat} {fv : Value} {held : List (ByteArray × Nat)} {free : List Nat} (st : St w B F R mref fv held free) (hm : mref ≠ none) (key : ByteArray) (hs : key.size ≤ maxLen) (hn : look held key = none) :
    Calls Try.prog 15 #[.pointer (some ⟨R, 0, none⟩), .string key] w fun e w' => e = .returned (.int .i64 0) ∧ w' = w := by
  have c3 := st.rg.c3
  rcases st.mp with ⟨rfl, rfl, _⟩ | ⟨M, rfl, _, hM⟩
  · exact absurd rfl hm
  · have hl := hM.look_none hs hn
    clear st hM hm
    go_enter Try.func15, Try.ntmps15
    go_wp2
    go_ret
    exact ⟨rfl, rfl⟩

theorem keyUsers1 {w : World} {B F R k : Nat} {mref : Option Nat} {fv : Value} {held : List (ByteArray × Nat)} {free : List Nat} (st : St w B F R mref fv held free) (key : ByteArray) (hs : key.size ≤ maxLen) (hn : look held key = some k) (hk : KL w k 1 1) :
    Calls Try.prog 15 #[.pointer (some ⟨R, 0, none⟩), .string key] w fun e w' => e = .returned (.int .i64 1) ∧ w' = w := by
  have c3 := st.rg.c3
  rcases st.mp with ⟨rfl, rfl, _⟩ | ⟨M, rfl, _, hM⟩
  · cases hn
  · have hl := hM.look_some hs hn
    have k2 := hk.c2
    unfold ptr at hl
    clear st hM hk
    go_enter Try.func15, Try.ntmps15
    go_wp2
    go_ret
    exact ⟨rfl, rfl⟩

/-- What lockRelease leaves. -/
structure Rel (w : World) (B R : Nat) (a : Option Addr) (keys : List ByteArray) (w' : World) (F : Nat) (mref : Option Nat) (fv : Value) (free : List Nat) : Prop where
  st : St w' B F R mref fv [] free
  fl : free.length = min keys.length 64
  bl : Below B w w'
  kr : KR w' a keys
  ne : keys ≠ [] → mref ≠ none

set_option maxRecDepth 20000 in
set_option maxHeartbeats 1000000 in
theorem lockRelease (B F R kc : Nat) (keys : List ByteArray) (a : Option Addr) (w : World) (st : St w B F R none (.slice none 0 0) [] []) (hB : B ≤ w.heap.size) (hnd : keys.Nodup) (hks : ∀ s ∈ keys, s.size ≤ maxLen) (hkn : keys.length ≤ 1048576) (hkeys : KR w a keys) :
    Calls Try.prog 12 #[.pointer (some ⟨R, 0, none⟩), .slice a keys.length kc] w fun e w' => (∃ v, e = .returned v) ∧ ∃ F' mref fv free, Rel w B R a keys w' F' mref fv free := by
  have HST : Hid _ := st
  have HK : Hid _ := hkeys
  clear st hkeys
  go_enter Try.func12, Try.ntmps12
  go_wp2_with fail
  refine (reglock B F R none (.slice none 0 0) [] keys a kc w HST.out hB hnd hks hkn HK.out).mono ?_
  rintro e w1 ⟨rfl, ks, mref, fv', free', L⟩
  have hfv := L.ff rfl
  have hfr : free' = [] := List.eq_nil_of_length_eq_zero (by have := L.fl; simpa using this)
  subst hfv hfr
  have hB1 : B ≤ w1.heap.size := by have := L.tn.size; omega
  have hst1 : St w1 B w1.heap.size R mref (.slice none 0 0) (keys.zip ks) [] := L.st.rebase _
  have bl1 : Below B w w1 := L.tn.below hB (by
    rintro b (e | e | e)
    · rw [e]; exact HST.out.rB
    · cases e
    · cases e)
  have hne : keys ≠ [] → mref ≠ none := by
    intro hk hm
    rcases hst1.mp with ⟨_, h, _⟩ | ⟨M, h, _⟩
    · cases hkk : keys with
      | nil => exact hk hkk
      | cons x xs =>
        have := L.len
        rw [hkk] at this h
        cases hks' : ks with
        | nil => rw [hks'] at this; simp at this
        | cons y ys => rw [hks'] at h; simp at h
    · rw [h] at hm; cases hm
  have HL : Hid _ := L
  have HS1 : Hid _ := hst1
  clear L hst1
  have hnf : ∀ fs caps, Sem.run Try.prog (binOp BinOp.neq 1 (Value.func (.func 24) fs caps) Value.nilFunc) w1 = .ok (.bool true) w1 := fun fs caps => by kernel_rfl
  go_wp2_with fail
  refine (release B R (w.heap.size + 1) w.heap.size (w.heap.size + 1 + 1 + 1) (w.heap.size + 1 + 1) kc mref keys ks a w1 HS1.out hB1 hnd hks hkn HL.out.len HL.out.b1 HL.out.b0 HL.out.b3 HL.out.row HL.out.kr).mono ?_
  rintro e w2 ⟨⟨v, rfl⟩, fv2, free2, X⟩
  have HX : Hid _ := X
  clear X
  go_wp2
  go_end0
  exact ⟨⟨_, rfl⟩, _, mref, fv2, free2, HX.out.st, HX.out.fl, bl1.trans HX.out.bl, HX.out.kr, hne⟩

/-- What lockKeep leaves. -/
structure Kep (w : World) (B F R : Nat) (a : Option Addr) (keys : List ByteArray) (w' : World) (ks : List Nat) (mref : Option Nat) (fv : Value) (free : List Nat) : Prop where
  st : St w' B F R mref fv (keys.zip ks) free
  len : ks.length = keys.length
  tn : Below B w w'
  kr : KR w' a keys

theorem lockKeep (B F R kc : Nat) (mref : Option Nat) (fv : Value) (free : List Nat) (keys : List ByteArray) (a : Option Addr) (w : World) (st : St w B F R mref fv [] free) (hB : B ≤ w.heap.size) (hnd : keys.Nodup) (hks : ∀ s ∈ keys, s.size ≤ maxLen) (hkn : keys.length ≤ 1048576) (hkeys : KR w a keys) :
    Calls Try.prog 16 #[.pointer (some ⟨R, 0, none⟩), .slice a keys.length kc] w fun e w' => (∃ v, e = .returned v) ∧ ∃ ks mref' fv' free', free'.length = free.length - keys.length ∧ Kep w B F R a keys w' ks mref' fv' free' := by
  have HST : Hid _ := st
  have HK : Hid _ := hkeys
  clear st hkeys
  go_enter Try.func16, Try.ntmps16
  go_wp2_with fail
  refine (reglock B F R mref fv free keys a kc w HST.out hB hnd hks hkn HK.out).mono ?_
  rintro e w1 ⟨rfl, ks, mref', fv', free', L⟩
  have bl1 : Below B w w1 := L.tn.below hB (by
    rintro b (e | e | e)
    · rw [e]; exact HST.out.rB
    · rcases HST.out.mp with ⟨h, _⟩ | ⟨M, h, h2, _⟩
      · rw [h] at e; cases e
      · rw [h] at e; cases e; exact h2
    · exact (HST.out.fk b e).2)
  have HL : Hid _ := L
  clear L
  go_wp2
  go_end0
  exact ⟨⟨_, rfl⟩, ks, mref', fv', free', HL.out.fl, HL.out.st, HL.out.len, bl1, HL.out.kr⟩

end Go.Proofs.Qxb6616406a.Rg
