/-
  graph.OwnName and zzHasDot at seat b6616417a's dump: the plain functions on lists of bytes, their laws, and the two walks.
-/
import Derived.Test.Qxb6616417aRows
import Derived.Test.Qxb6616417aShelf
import Derived.WalkKit
import Derived.ProofKit
import Derived.WalkSpells
import Derived.Outline
namespace Go.Proofs.Qxb6616417a.Nm
open Go.RowKit
set_option linter.unusedVariables false

/-! ### The plain layer -/
def hasDot : List UInt8 → Bool
  | [] => false
  | c :: r => c == 46 || hasDot r

/-- What stands behind the last dot; the whole where there is none. -/
def ownL : List UInt8 → List UInt8
  | [] => []
  | c :: r => if hasDot r then ownL r else if c == 46 then r else c :: r

theorem hasDot_append (a b : List UInt8) : hasDot (a ++ b) = (hasDot a || hasDot b) := by
  induction a with
  | nil => rfl
  | cons c r ih => simp only [List.cons_append, hasDot, ih, Bool.or_assoc]

theorem ownL_none (b : List UInt8) (h : hasDot b = false) : ownL b = b := by
  cases b with
  | nil => rfl
  | cons c r =>
    simp only [hasDot, Bool.or_eq_false_iff] at h
    simp [ownL, h.1, h.2]

theorem ownL_append_dot (a b : List UInt8) (h : hasDot b = true) : ownL (a ++ b) = ownL b := by
  induction a with
  | nil => rfl
  | cons c r ih =>
    have e : hasDot (r ++ b) = true := by rw [hasDot_append, h]; simp
    simp only [List.cons_append, ownL, e, if_true, ih]

theorem ownL_append_none (a b : List UInt8) (h : hasDot b = false) : ownL (a ++ b) = ownL a ++ b := by
  induction a with
  | nil => exact ownL_none b h
  | cons c r ih =>
    have e : hasDot (r ++ b) = hasDot r := by rw [hasDot_append, h]; simp
    simp only [List.cons_append, ownL, e]
    split
    · exact ih
    · split <;> rfl

theorem ownL_under (a b : List UInt8) : ownL (a ++ 46 :: b) = ownL b := by
  rw [ownL_append_dot a (46 :: b) (by simp [hasDot])]
  cases h : hasDot b with
  | true => simp [ownL, h]
  | false => rw [ownL_none b h]; simp [ownL, h]

theorem ownL_shorter (b : List UInt8) (h : hasDot b = true) : (ownL b).length < b.length := by
  induction b with
  | nil => simp [hasDot] at h
  | cons c r ih =>
    unfold ownL
    cases hr : hasDot r with
    | true => have := ih hr; simp; omega
    | false =>
      have hc : (c == 46) = true := by simpa [hasDot, hr] using h
      simp [hc]

theorem hasDot_false_iff (l : List UInt8) : hasDot l = false ↔ ∀ j, (h : j < l.length) → l[j] ≠ 46 := by
  induction l with
  | nil => simp [hasDot]
  | cons c r ih =>
    simp only [hasDot, Bool.or_eq_false_iff, ih]
    constructor
    · rintro ⟨h1, h2⟩ j hj
      cases j with
      | zero => simpa using h1
      | succ j => simpa using h2 j (by simpa using hj)
    · intro h
      have h0 : c ≠ 46 := h 0 (by simp)
      refine ⟨by simpa using h0, fun j hj => ?_⟩
      have h1 : r[j] ≠ 46 := h (j + 1) (by simpa using hj)
      exact h1

/-- OwnName's answer, on byte arrays. -/
def own (s : ByteArray) : ByteArray := ⟨(ownL s.data.toList).toArray⟩

theorem byteBang (s : ByteArray) (j : Nat) (hj : j < s.data.toList.length) : ((s.data[j]!).toNat : Int) = ((s.data.toList[j]).toNat : Int) := by
  rw [getElem!_pos s.data j (by simpa using hj)]; simp

theorem toNat_46 (c : UInt8) : ((c.toNat : Int) = 46) ↔ c = 46 := by
  constructor
  · intro h; exact UInt8.toNat_inj.1 (by have e : (46 : UInt8).toNat = 46 := rfl; omega)
  · rintro rfl; rfl

theorem lastIndex_own (s : ByteArray) : s.data.toList.drop (Lib.lastIndexByte s 46 + 1).toNat = ownL s.data.toList ∧ -1 ≤ Lib.lastIndexByte s 46 ∧ Lib.lastIndexByte s 46 < s.size := by
  have hsz : s.size = s.data.toList.length := by simp
  rcases Lib.lastIndexByte_spec s 46 with ⟨e, hn⟩ | ⟨i, hi, e, hc, hn⟩
  · refine ⟨?_, by omega, by omega⟩
    rw [e, ownL_none]
    · simp
    · rw [hasDot_false_iff]
      intro j hj h
      have := hn j (by omega)
      rw [byteBang s j hj, Ne, toNat_46] at this
      exact this h
  · refine ⟨?_, by omega, by omega⟩
    have hi' : i < s.data.toList.length := by omega
    rw [byteBang s i hi', toNat_46] at hc
    have e2 : (Lib.lastIndexByte s 46 + 1).toNat = i + 1 := by omega
    rw [e2]
    have hd : hasDot (s.data.toList.drop (i + 1)) = false := by
      rw [hasDot_false_iff]
      intro j hj h
      rw [List.length_drop] at hj
      rw [List.getElem_drop] at h
      have := hn (i + 1 + j) (by omega) (by omega)
      rw [byteBang s _ (by omega), Ne, toNat_46] at this
      exact this h
    have hs : s.data.toList = s.data.toList.take i ++ 46 :: s.data.toList.drop (i + 1) := by
      rw [← hc, List.getElem_cons_drop, List.take_append_drop]
    have key : ownL s.data.toList = s.data.toList.drop (i + 1) := by
      conv => lhs; rw [hs]
      rw [ownL_under, ownL_none _ hd]
    exact key.symm

theorem extract_own (s : ByteArray) : s.extract (Lib.lastIndexByte s 46 + 1).toNat s.size = own s := by
  have h := (lastIndex_own s).1
  unfold own
  rw [← h]
  apply ByteArray.ext
  apply Array.toList_inj.1
  have hsz : s.size = s.data.toList.length := by simp
  rw [ByteArray.data_extract, hsz]
  simp only [Array.toList_extract, List.extract_eq_take_drop]
  rw [List.take_of_length_le (by simp)]

/-- zzHasDot's answer, on byte arrays. -/
def dot (s : ByteArray) : Bool := hasDot s.data.toList

theorem parts (s : ByteArray) (k : Nat) (hk : k ≤ s.size) : s.data.toList = (s.extract 0 k).data.toList ++ (s.extract k s.size).data.toList := by
  have hsz : s.size = s.data.toList.length := by simp
  rw [Lib.extract_data, Lib.extract_data]
  simp only [List.drop_zero, Nat.sub_zero]
  rw [List.take_of_length_le (l := s.data.toList.drop k) (by rw [List.length_drop, hsz]; omega), List.take_append_drop]

theorem own_cut_dot (s : ByteArray) (k : Nat) (hk : k ≤ s.size) (h : dot (s.extract k s.size) = true) : own s = own (s.extract k s.size) := by
  unfold own
  conv => lhs; rw [parts s k hk]
  rw [ownL_append_dot _ _ h]

theorem own_cut_none (s : ByteArray) (k : Nat) (hk : k ≤ s.size) (h : dot (s.extract k s.size) = false) : own s = own (s.extract 0 k) ++ s.extract k s.size := by
  apply ByteArray.ext
  apply Array.toList_inj.1
  unfold own
  rw [ByteArray.data_append, Array.toList_append]
  show ownL s.data.toList = ownL _ ++ _
  conv => lhs; rw [parts s k hk]
  rw [ownL_append_none _ _ h]

theorem own_under (a b : ByteArray) : own (a ++ ⟨#[46]⟩ ++ b) = own b := by
  unfold own
  rw [ByteArray.data_append, ByteArray.data_append]
  simp only [Array.toList_append, List.append_assoc]
  show ByteArray.mk (ownL (a.data.toList ++ 46 :: b.data.toList)).toArray = _
  rw [ownL_under]

theorem own_none (b : ByteArray) (h : dot b = false) : own b = b := by
  unfold own
  rw [ownL_none _ h]

theorem own_shorter (b : ByteArray) (h : dot b = true) : (own b).size < b.size := by
  have := ownL_shorter _ h
  have hsz : b.size = b.data.toList.length := by simp
  rw [hsz]
  show (ownL b.data.toList).toArray.size < _
  simpa using this

theorem own_le (b : ByteArray) : (own b).size ≤ b.size := by
  cases h : dot b with
  | true => exact Nat.le_of_lt (own_shorter b h)
  | false => rw [own_none b h]; exact Nat.le_refl _

theorem ret_bool {a b : Bool} (h : a = b) : Ending.returned (.bool a) = .returned (.bool b) := by rw [h]

/-- OwnName. -/
theorem own_any (s : ByteArray) (hs : s.size ≤ 4194304) (w : World) :
    Calls Try.prog 8 #[.string s] w fun e w' => e = .returned (.string (own s)) ∧ w' = w := by
  obtain ⟨_, h1, h2⟩ := lastIndex_own s
  have he := extract_own s
  have hI : Lib.lastIndexByte s 46 < 4194304 := by omega
  go_enter Try.func8, Try.ntmps8
  go_wp2_with (go_at_call 17; refine (Try.strings_LastIndexByte _ _ (by omega) _).mono ?_; rintro e w' ⟨rfl, rfl⟩)
  go_ret
  exact ⟨rfl, rfl⟩

theorem hasDot_take_succ (s : ByteArray) (k : Nat) (h : k < s.size) : hasDot (s.data.toList.take (k + 1)) = (hasDot (s.data.toList.take k) || s[k] == 46) := by
  rw [List.take_succ_eq_append_getElem (by simpa using h), hasDot_append]
  simp [hasDot]
  rfl

/-- zzHasDot. -/
theorem hasDot_any (s : ByteArray) (hs : s.size ≤ 4194304) (w : World) :
    Calls Try.prog 9 #[.string s] w fun e w' => e = .returned (.bool (dot s)) ∧ w' = w := by
  go_enter Try.func9, Try.ntmps9
  go_wp2
  go_loop [3] (fun i => ∃ k : Nat, k ≤ s.size ∧ i = .int .i64 k ∧ Hid (hasDot (s.data.toList.take k) = false)) (fun i => s.size - (intOf i).toNat)
  case atStart => exact ⟨0, Nat.zero_le _, rfl, rfl⟩
  case round =>
    obtain ⟨k, hk, rfl, hd⟩ := hrel
    by_cases hlt : k < s.size
    · have hsn := hasDot_take_succ s k hlt
      have HS : Hid (hasDot (s.data.toList.take (k + 1)) = (hasDot (s.data.toList.take k) || s[k] == 46)) := hsn
      clear hsn
      go_wp2
      · have hc : ((s[k].toNat : Int) == 46) = true := by assumption
        have hc' : s[k] = 46 := (toNat_46 _).1 (by simpa using hc)
        have e : hasDot s.data.toList = true := by
          rw [← List.take_append_drop (k + 1) s.data.toList, hasDot_append, HS.out, hc']
          simp
        go_ret
        exact ⟨ret_bool e.symm, rfl⟩
      · have hc : ((s[k].toNat : Int) == 46) = false := by assumption
        have hc' : ¬ s[k] = 46 := fun h => by rw [h] at hc; simp at hc
        exact ⟨⟨k + 1, by omega, by go_num, by show _ = _; rw [HS.out, hd.out]; simp [hc']⟩, by simp [intOf]; omega⟩
    · go_wp2
      go_ret
      exact ⟨ret_bool (by rw [← hd.out, List.take_of_length_le (by simp; omega)]; rfl), rfl⟩
end Go.Proofs.Qxb6616417a.Nm
