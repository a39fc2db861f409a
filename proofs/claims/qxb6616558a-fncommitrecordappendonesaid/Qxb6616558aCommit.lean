/-
  decisionlog.commitRecord at seat b6616558a's dump: the plain function, its laws, the walk.
-/
import Derived.Test.Qxb6616558aRows
import Derived.Test.Qxb6616558aShelf
import Derived.WalkKit
import Derived.ProofKit
import Derived.WalkSpells
import Derived.Deep.OwnRows
import Derived.Laws.AppendOwnNone
import Derived.Lib.Join
import Derived.Outline
namespace Go.Proofs.Qxb6616558a.Cm
open Go.RowKit
set_option linter.unusedVariables false

theorem infoE : (Try.prog.info? 9).map (fun i => (i.zero, i.size, i.bytes)) = some (some (.string ⟨#[]⟩), 1, 16) := by kernel_rfl

/-! ### The plain layer -/
/-- The bytes of "commit". -/
def commit : ByteArray := ⟨#[99, 111, 109, 109, 105, 116]⟩

def recL (id : ByteArray) (ps : List ByteArray) : List UInt8 := Lib.join ((commit :: id :: ps).map (·.data.toList)) [32]

/-- What commitRecord hands back. -/
def rc (id : ByteArray) (ps : List ByteArray) : ByteArray := ⟨(recL id ps).toArray⟩

theorem joinTail_append (sep : List UInt8) (a b : List (List UInt8)) : Lib.joinTail sep (a ++ b) = Lib.joinTail sep a ++ Lib.joinTail sep b := by
  simp [Lib.joinTail]

theorem recL_eq (id : ByteArray) (ps : List ByteArray) : recL id ps = commit.data.toList ++ Lib.joinTail [32] ((id :: ps).map (·.data.toList)) := by
  unfold recL
  rw [List.map_cons, Lib.join_cons]

theorem rc_nil (id : ByteArray) : rc id [] = ⟨#[99, 111, 109, 109, 105, 116, 32]⟩ ++ id := by
  apply ByteArray.ext
  apply Array.toList_inj.1
  rw [ByteArray.data_append, Array.toList_append]
  show recL id [] = _
  rw [recL_eq]
  simp [Lib.joinTail, commit]

theorem rc_snoc (id : ByteArray) (ps : List ByteArray) (q : ByteArray) : rc id (ps ++ [q]) = rc id ps ++ ⟨#[32]⟩ ++ q := by
  apply ByteArray.ext
  apply Array.toList_inj.1
  rw [ByteArray.data_append, ByteArray.data_append, Array.toList_append, Array.toList_append]
  show recL id (ps ++ [q]) = recL id ps ++ [32] ++ q.data.toList
  rw [recL_eq, recL_eq, ← List.cons_append, List.map_append, joinTail_append]
  simp [Lib.joinTail]

/-- The lengths of the elements, added up. -/
def tot : List ByteArray → Nat
  | [] => 0
  | p :: r => p.size + tot r

theorem tot_append (a b : List ByteArray) : tot (a ++ b) = tot a + tot b := by
  induction a with
  | nil => simp [tot]
  | cons p r ih => simp only [List.cons_append, tot, ih]; omega

theorem lens_tot (ps : List ByteArray) : Lib.lens (ps.map (·.data.toList)) = tot ps := by
  induction ps with
  | nil => rfl
  | cons p r ih =>
    simp only [Lib.lens, List.map_cons, List.sum_cons] at ih ⊢
    rw [ih]
    simp [tot]

theorem recL_length (id : ByteArray) (ps : List ByteArray) : (recL id ps).length = 7 + id.size + ps.length + tot ps := by
  rw [recL_eq, List.length_append, Lib.joinTail_length, lens_tot]
  have e : commit.data.toList.length = 6 := rfl
  rw [e]
  simp [tot]
  omega

theorem rc_size (id : ByteArray) (ps : List ByteArray) : (rc id ps).size = 7 + id.size + ps.length + tot ps := by
  rw [← recL_length]
  simp [rc, ByteArray.size]

/-! ### The walk -/
/-- Behind the append: strings.Join over the row that the call owns. -/
theorem own_strs {w : World} {B n : Nat} {v : Value} {ss : List ByteArray} (h : w.ownsRow B 9 1 v n (ss.map Value.string)) (hn : 0 < n) :
    ss.length = n ∧ ∃ g cap, v = .slice (some ⟨g, 0, none⟩) ss.length cap ∧ B ≤ g ∧ g < w.heap.size ∧ ss.length ≤ cap ∧ ∀ (j : Nat) x, ss[j]? = some x → w.cell? ⟨g, 0 + j, none⟩ = some (.string x) := by
  have hl : ss.length = n := by have := h.1; rw [List.length_map] at this; omega
  obtain ⟨h1, h2 | ⟨g, cap, cur, hv, hB, hh, hc, hm, hs, ht⟩⟩ := h
  · omega
  refine ⟨hl, g, cap, by rw [hl]; exact hv, hB, (Array.getElem?_eq_some_iff.1 hh).1, by omega, fun j x hj => ?_⟩
  have hjl : j < ss.length := (List.getElem?_eq_some_iff.1 hj).1
  have e : (cur.toList.take (n * 1))[j]? = (ss.map Value.string)[j]? := by rw [ht]
  rw [List.getElem?_take, if_pos (by omega), Array.getElem?_toList, List.getElem?_map, hj] at e
  simp [World.cell?, hh, e]

theorem commit_nil (id : ByteArray) (hid : id.size ≤ 1048576) (w : World) :
    Calls Try.prog 6 #[.string id, .slice none 0 0] w fun e w' => e = .returned (.string (rc id [])) ∧ Below w.heap.size w w' := by
  obtain ⟨i0, hi, hz0, hz1, hz2⟩ := info_parts infoE
  go_enter Try.func6, Try.ntmps6
  go_wp2_with fail
  have hj := Try.strings_Join w.heap.size 0 2 [commit, id] ⟨#[32]⟩ (w.alloc (.cells #[.string ⟨#[99, 111, 109, 109, 105, 116]⟩, .string id] 9)) (by
    intro j x hj
    match j, hj with
    | 0, hj => simp at hj; subst hj; simp [commit]
    | 1, hj => simp at hj; subst hj; simp) (by simp) (by simp) (by simp) (by
    have := recL_length id []
    have e : Lib.join (([commit, id] : List ByteArray).map (·.data.toList)) (ByteArray.data ⟨#[32]⟩).toList = recL id [] := rfl
    rw [e, this]
    simp [tot]
    omega)
  refine hj.mono ?_
  rintro e w1 ⟨rfl, hb⟩
  go_wp2
  go_ret
  exact ⟨rfl, ((Below.refl _ _).alloc (Nat.le_refl _) _).trans (hb.mono (by simp))⟩

theorem commit_row (id : ByteArray) (ad : Addr) (len cap : Nat) (ps : List ByteArray) (hid : id.size ≤ 1048576) (hl : ps.length = len) (hlen : len ≤ 2097152) (ht : tot ps ≤ 4194304) (w : World) (hc : ∀ (j : Nat) x, ps[j]? = some x → w.cell? (ad.add j) = some (.string x)) :
    Calls Try.prog 6 #[.string id, .slice (some ad) len cap] w fun e w' => e = .returned (.string (rc id ps)) ∧ Below w.heap.size w w' := by
  obtain ⟨i0, hi, hz0, hz1, hz2⟩ := info_parts infoE
  have hown : (w.alloc (.cells #[.string ⟨#[99, 111, 109, 109, 105, 116]⟩, .string id] 9)).ownsRow w.heap.size 9 1 (.slice (some ⟨w.heap.size, 0, none⟩) 2 2) 2 [.string ⟨#[99, 111, 109, 109, 105, 116]⟩, .string id] :=
    ⟨by simp, .inr ⟨w.heap.size, 2, _, rfl, Nat.le_refl _, heap_alloc_new w _, Nat.le_refl _, by unfold maxLen; omega, by simp, by simp⟩⟩
  have HC : Hid (∀ (j : Nat) u, (ps.map Value.string)[j]? = some u → (w.alloc (.cells #[.string ⟨#[99, 111, 109, 109, 105, 116]⟩, .string id] 9)).cell? (ad.add j) = some u) := by
    intro j u hu
    rw [List.getElem?_map, Option.map_eq_some_iff] at hu
    obtain ⟨x, hx, rfl⟩ := hu
    have h := hc j x hx
    rw [World.cell?_alloc_lt _ _ _ (World.block_lt_of_cell? w _ h), h]
  have HO : Hid ((w.alloc (.cells #[.string ⟨#[99, 111, 109, 109, 105, 116]⟩, .string id] 9)).ownsRow w.heap.size 9 1 (.slice (some ⟨w.heap.size, 0, none⟩) 2 2) 2 [.string ⟨#[99, 111, 109, 109, 105, 116]⟩, .string id]) := hown
  have HL : Hid (ps.length = len) := hl
  clear hc hown hl
  go_enter Try.func6, Try.ntmps6
  go_wp2_with (at_builtin; refine wpList_append_own _ rfl _ _ 22 rfl w.heap.size 9 i0 (.string ⟨#[]⟩) 1 16 Try.underlying22 hi hz0 hz1 hz2 rfl (by decide) _ 2 _ rfl HO.out ad len cap (ps.map Value.string) rfl ?c1 HC.out ?c2 ?c3 ?c4 ?c5 ?_)
  case c1 => simp [HL.out]
  case c2 => intro u hu; obtain ⟨x, _, rfl⟩ := List.mem_map.1 hu; rfl
  case c3 => unfold maxLen; omega
  case c4 => omega
  case c5 => simp
  intro v' w1 hown' hgrow _
  have hB : Below w.heap.size w w1 := ((Below.refl _ w).alloc (Nat.le_refl _) _).grown hgrow (by simp) (fun k hk => by cases hk; exact Nat.le_refl _)
  have hown2 : w1.ownsRow w.heap.size 9 1 v' (2 + len) ((commit :: id :: ps).map Value.string) := hown'
  obtain ⟨hl2, g, cap', hv, hg1, hg2, hcap, hcells⟩ := own_strs hown2 (by omega)
  have hj := Try.strings_Join g 0 cap' (commit :: id :: ps) ⟨#[32]⟩ w1 hcells hg2 (by rw [hl2]; omega) hcap (by
    have e : Lib.join ((commit :: id :: ps).map (·.data.toList)) (ByteArray.data ⟨#[32]⟩).toList = recL id ps := rfl
    rw [e, recL_length, HL.out]
    omega)
  rw [← hv] at hj
  have HJ : Hid _ := hj
  clear hj hcells hown' hown2 hgrow hv hl2
  go_wp2_with fail
  refine Calls.mono HJ.out ?_
  rintro e w2 ⟨rfl, hb⟩
  go_wp2
  go_ret
  exact ⟨rfl, hB.trans (hb.mono hB.size)⟩

/-- ZZcommitRecord, nothing beside. -/
theorem zz_nil (id : ByteArray) (hid : id.size ≤ 1048576) (w : World) :
    Calls Try.prog 5 #[.string id, .slice none 0 0] w fun e w' => e = .returned (.string (rc id [])) ∧ Below w.heap.size w w' := by
  go_enter Try.func5, Try.ntmps5
  go_wp2_with fail
  refine (commit_nil id hid _).mono ?_
  rintro e w1 ⟨rfl, hb⟩
  go_wp2
  go_ret
  exact ⟨rfl, hb⟩

theorem zz_row (id : ByteArray) (ad : Addr) (len cap : Nat) (ps : List ByteArray) (hid : id.size ≤ 1048576) (hl : ps.length = len) (hlen : len ≤ 2097152) (ht : tot ps ≤ 4194304) (w : World) (hc : ∀ (j : Nat) x, ps[j]? = some x → w.cell? (ad.add j) = some (.string x)) :
    Calls Try.prog 5 #[.string id, .slice (some ad) len cap] w fun e w' => e = .returned (.string (rc id ps)) ∧ Below w.heap.size w w' := by
  have HC : Hid (∀ (j : Nat) x, ps[j]? = some x → w.cell? (ad.add j) = some (.string x)) := hc
  have HL : Hid (ps.length = len) := hl
  clear hc hl
  go_enter Try.func5, Try.ntmps5
  go_wp2_with fail
  refine (commit_row id ad len cap ps hid HL.out hlen ht _ HC.out).mono ?_
  rintro e w1 ⟨rfl, hb⟩
  go_wp2
  go_ret
  exact ⟨rfl, hb⟩
end Go.Proofs.Qxb6616558a.Cm
