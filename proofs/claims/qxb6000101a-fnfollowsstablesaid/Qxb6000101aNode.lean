/-
  THE WALK of NodeOf: it gives some function of the name.
-/
import Derived.Test.Qxb6000101aRows
import Derived.Test.Qxb6000101aShelf
import Derived.WalkKit
import Derived.WalkSpells
import Derived.WalkLawsBesides
import Derived.Deep.QuietTactic
import Derived.BigQuiet
import Derived.Deep.Draws
namespace Go.Proofs.Qxb6000101a
open Go.RowKit

theorem index_lt (l : List UInt8) (c : UInt8) (k : Nat) (h : Lib.indexByte l c = k) : k < l.length := by
  induction l generalizing k with
  | nil => simp [Lib.indexByte] at h
  | cons b t ih =>
    unfold Lib.indexByte at h
    have hge := Lib.indexByte_ge t c
    cases hb : (b == c)
    · rw [hb] at h
      by_cases ht : Lib.indexByte t c = -1
      · simp [ht] at h
      · have ht' : (Lib.indexByte t c == -1) = false := by simpa using ht
        rw [ht'] at h
        simp only [Bool.false_eq_true, if_false] at h
        obtain ⟨j, rfl⟩ : ∃ j, k = j + 1 := ⟨k - 1, by omega⟩
        have := ih j (by omega)
        simp; omega
    · rw [hb] at h
      simp at h
      obtain rfl : k = 0 := by omega
      simp

def nd (s : ByteArray) : ByteArray := if Lib.indexByte s.data.toList 126 = -1 then s else s.extract 0 (Lib.indexByte s.data.toList 126).toNat

set_option maxHeartbeats 1000000 in
theorem cut_any (s : ByteArray) (w : World) (hs : s.size ≤ 1048576) :
    Calls Try.prog 34 #[.string s, .string ⟨#[126]⟩] w fun e w' => (∃ (r : ByteArray) (c : Bool), e = .returned (.tuple #[.string (nd s), .string r, .bool c])) ∧ ∃ n, w' = w.drewN n := by
  obtain ⟨q, hq, hcall⟩ : ∃ q : Int, Hid (q = Lib.indexByte s.data.toList 126) ∧ Hid (∀ w, Calls Try.prog 35 #[.string s, .string ⟨#[126]⟩] w fun e w' => e = .returned (.int .i64 q) ∧ w' = w) :=
    ⟨_, rfl, fun w => Try.stringslite_Index_one s 126 w⟩
  by_cases hq1 : q = -1
  · have HE : Hid (nd s = s) := by show nd s = s; unfold nd; rw [if_pos (by rw [← hq.out]; exact hq1)]
    subst hq1
    clear hq
    go_enter Try.func34, Try.ntmps34
    go_wp2_with (go_at_call 35; refine (hcall.out _).mono ?_; rintro e w' ⟨rfl, rfl⟩)
    go_ret3
    exact ⟨⟨⟨#[]⟩, false, by rw [HE.out]; rfl⟩, 0, rfl⟩
  · have hge := Lib.indexByte_ge s.data.toList 126
    rw [← hq.out] at hge
    obtain ⟨k, rfl⟩ : ∃ k : Nat, q = k := ⟨q.toNat, by omega⟩
    have hk : k < s.size := by have := index_lt _ _ k hq.out.symm; simpa using this
    have HE : Hid (nd s = s.extract 0 k) := by
      show nd s = _
      unfold nd
      rw [if_neg (by rw [← hq.out]; omega), ← hq.out]
      simp
    clear hq hq1 hge
    have hw : IntKind.i64.wrap ((k : Int) + 1) = (k : Int) + 1 := by rw [IntKind.wrap_i64]; omega
    go_enter Try.func34, Try.ntmps34
    go_wp2_with (go_at_call 35; refine (hcall.out _).mono ?_; rintro e w' ⟨rfl, rfl⟩)
    go_quiet (fail)
    go_wp2
    go_ret3
    exact ⟨⟨_, true, by rw [HE.out]; rfl⟩, _, rfl⟩

set_option maxHeartbeats 400000 in
theorem scut_any (s : ByteArray) (w : World) (hs : s.size ≤ 1048576) :
    Calls Try.prog 33 #[.string s, .string ⟨#[126]⟩] w fun e w' => (∃ (r : ByteArray) (c : Bool), e = .returned (.tuple #[.string (nd s), .string r, .bool c])) ∧ ∃ n, w' = w.drewN n := by
  go_enter Try.func33, Try.ntmps33
  go_wp2_with (go_at_call 34; refine (cut_any _ _ hs).mono ?_)
  rintro e w1 ⟨⟨r, c, rfl⟩, n, rfl⟩
  go_wp2
  go_ret3
  exact ⟨⟨r, c, rfl⟩, n, rfl⟩

set_option maxHeartbeats 400000 in
theorem node_any (s : ByteArray) (w : World) (hs : s.size ≤ 1048576) :
    Calls Try.prog 32 #[.string s] w fun e w' => e = .returned (.string (nd s)) ∧ ∃ n, w' = w.drewN n := by
  go_enter Try.func32, Try.ntmps32
  go_wp2_with (go_at_call 33; refine (scut_any _ _ hs).mono ?_)
  rintro e w1 ⟨⟨r, c, rfl⟩, n, rfl⟩
  go_wp2
  go_ret
  exact ⟨rfl, n, rfl⟩

end Go.Proofs.Qxb6000101a
