/-
  THE PLAIN LAWS of the seat b6603940a (module hermod): cutting an entity tag off a list of bytes. No Go text here.
-/
import Derived.Lib.Bytealg
import Derived.Lib.Strings
namespace Go.Proofs.Qxb6603940a.Pl

theorem index_none (l : List UInt8) (c : UInt8) (h : Lib.indexByte l c = -1) : c ∉ l := by
  induction l with
  | nil => simp
  | cons b t ih =>
    unfold Lib.indexByte at h
    have hge := Lib.indexByte_ge t c
    by_cases hb : b = c
    · subst hb; simp at h
    · have hb' : (b == c) = false := by simpa using hb
      rw [hb'] at h
      by_cases ht : Lib.indexByte t c = -1
      · simp [Ne.symm hb, ih ht]
      · simp [ht] at h; omega

theorem index_some (l : List UInt8) (c : UInt8) (k : Nat) (h : Lib.indexByte l c = k) : k < l.length ∧ l = l.take k ++ c :: l.drop (k + 1) ∧ c ∉ l.take k := by
  induction l generalizing k with
  | nil => simp [Lib.indexByte] at h
  | cons b t ih =>
    unfold Lib.indexByte at h
    have hge := Lib.indexByte_ge t c
    by_cases hb : b = c
    · subst hb
      simp at h
      obtain rfl : k = 0 := by omega
      simp
    · have hb' : (b == c) = false := by simpa using hb
      rw [hb'] at h
      by_cases ht : Lib.indexByte t c = -1
      · simp [ht] at h
      · have ht' : (Lib.indexByte t c == -1) = false := by simpa using ht
        rw [ht'] at h
        simp only [Bool.false_eq_true, if_false] at h
        obtain ⟨j, rfl⟩ : ∃ j, k = j + 1 := ⟨k - 1, by omega⟩
        obtain ⟨h1, h2, h3⟩ := ih j (by omega)
        refine ⟨by simp; omega, ?_, ?_⟩
        · simp only [List.take_succ_cons, List.drop_succ_cons, List.cons_append, ← h2]
        · simp [Ne.symm hb, h3]

theorem index_first (x r : List UInt8) (c : UInt8) (h : c ∉ x) : Lib.indexByte (x ++ c :: r) c = x.length := by
  induction x with
  | nil => simp [Lib.indexByte]
  | cons b t ih =>
    have hb : b ≠ c := by rintro rfl; simp at h
    have hb' : (b == c) = false := by simpa using hb
    have ht : c ∉ t := fun hm => h (by simp [hm])
    rw [List.cons_append, Lib.indexByte, hb', ih ht]
    have e : (((t.length : Nat) : Int) == -1) = false := by rw [beq_eq_false_iff_ne]; omega
    rw [e]
    simp

/-- What is left behind the mark. -/
def aft (l : List UInt8) : List UInt8 := Lib.trimPrefix l [87, 47]
def mark (l : List UInt8) : Bool := Lib.hasPrefix l [87, 47]

theorem mark_split (l : List UInt8) : (mark l = true ∧ l = 87 :: 47 :: aft l) ∨ (mark l = false ∧ aft l = l ∧ ¬ ∃ t, l = 87 :: 47 :: t) := by
  unfold mark aft Lib.trimPrefix Lib.hasPrefix
  match l with
  | [] => right; simp
  | [a] => right; simp [List.isPrefixOf]
  | a :: b :: t =>
    by_cases h : a = 87 ∧ b = 47
    · obtain ⟨rfl, rfl⟩ := h
      left; simp [List.isPrefixOf]
    · right
      have e : ([87, 47] : List UInt8).isPrefixOf (a :: b :: t) = false := by
        simp only [List.isPrefixOf, Bool.and_true]
        rw [Bool.and_eq_false_iff]
        by_cases ha : a = 87
        · right; simp; intro hb; exact h ⟨ha, hb.symm⟩
        · left; simp; exact fun hc => ha hc.symm
      refine ⟨e, by simp [e], ?_⟩
      rintro ⟨t', ht⟩
      simp at ht
      exact h ⟨ht.1, ht.2.1⟩

end Go.Proofs.Qxb6603940a.Pl
