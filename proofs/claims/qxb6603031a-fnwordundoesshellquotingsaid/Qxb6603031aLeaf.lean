/-
  THE WALKS of the small functions of the seat b6603031a.
-/
import Derived.Test.Qxb6603031aRows
import Derived.Test.Qxb6603031aPlain
import Derived.WalkKit
import Derived.WalkSpells
import Derived.WalkLawsBesides
import Derived.Deep.QuietTactic
import Derived.BigQuiet
namespace Go.Proofs.Qxb6603031a
open Go.RowKit

theorem ret_bool {a b : Bool} (h : a = b) : Ending.returned (.bool a) = .returned (.bool b) := by rw [h]

theorem byte_eq_int (b c : UInt8) : ((b.toNat : Int) == (c.toNat : Int)) = (b == c) := by
  rw [Bool.eq_iff_iff]
  simp only [beq_iff_eq]
  constructor
  · intro h; exact UInt8.toNat_inj.1 (by omega)
  · rintro rfl; rfl

set_option maxHeartbeats 400000 in
theorem bytes10_yes (s : ByteArray) (w : World) (h : s.size ≤ 1048576) :
    Calls Try.prog 10 #[.string s] w fun e w' => e = .returned (.bool true) ∧ w' = w := by
  have h1 : ¬ (1048576 : Int) < (s.size : Int) := by omega
  go_enter Try.func10, Try.ntmps10
  go_wp2
  go_ret
  exact ⟨rfl, rfl⟩

set_option maxHeartbeats 400000 in
theorem bytes10_no (s : ByteArray) (w : World) (h : 1048576 < s.size) :
    Calls Try.prog 10 #[.string s] w fun e w' => e = .returned (.bool false) ∧ w' = w := by
  have h1 : (1048576 : Int) < (s.size : Int) := by omega
  go_enter Try.func10, Try.ntmps10
  go_wp2
  go_ret
  exact ⟨rfl, rfl⟩

set_option maxHeartbeats 400000 in
theorem isBlank_any (b : UInt8) (w : World) :
    Calls Try.prog 13 #[.int .u8 b.toNat] w fun e w' => e = .returned (.bool (Pl.blank b)) ∧ w' = w := by
  have e : Pl.blank b = (((b.toNat : Int) == 32) || ((b.toNat : Int) == 9)) := by
    unfold Pl.blank
    rw [← byte_eq_int b 32, ← byte_eq_int b 9]; rfl
  have E : Hid (Pl.blank b = (((b.toNat : Int) == 32) || ((b.toNat : Int) == 9))) := e
  clear e
  by_cases h1 : ((b.toNat : Int) == 32) = true
  · go_enter Try.func13, Try.ntmps13
    go_wp2
    go_ret
    exact ⟨ret_bool (by rw [E.out]; simp [h1]), rfl⟩
  · have h1' : ((b.toNat : Int) == 32) = false := by simpa using h1
    clear h1
    go_enter Try.func13, Try.ntmps13
    go_wp2
    go_ret
    exact ⟨ret_bool (by rw [E.out]; simp [h1']), rfl⟩

def hasB (l : List UInt8) (c : Int) : Bool := l.any fun b => (b.toNat : Int) == c

theorem take_snoc (s : ByteArray) (k : Nat) (h : k < s.size) : s.data.toList.take (k + 1) = s.data.toList.take k ++ [s[k]] := by
  rw [List.take_succ_eq_append_getElem (by simpa using h)]; rfl

theorem hasB_hit (s : ByteArray) (c : Int) (k : Nat) (h : k < s.size) (h2 : ((s[k].toNat : Int) == c) = true) : hasB s.data.toList c = true := by
  unfold hasB
  rw [List.any_eq_true]
  exact ⟨s[k], by simp [ByteArray.getElem_eq_getElem_data], h2⟩

set_option maxHeartbeats 400000 in
theorem contains_any (s : ByteArray) (c : Int) (w : World) (hs : s.size ≤ maxLen) :
    Calls Try.prog 11 #[.string s, .int .u8 c] w fun e w' => e = .returned (.bool (hasB s.data.toList c)) ∧ w' = w := by
  unfold maxLen at hs
  go_enter Try.func11, Try.ntmps11
  go_wp2
  go_loop [5] (fun i => ∃ k : Nat, k ≤ s.size ∧ i = .int .i64 k ∧ hasB (s.data.toList.take k) c = false) (fun i => s.size - (intOf i).toNat)
  case atStart => exact ⟨0, Nat.zero_le _, rfl, rfl⟩
  case round =>
    obtain ⟨k, hk, rfl, hn⟩ := hrel
    have HN : Hid (hasB (s.data.toList.take k) c = false) := hn
    clear hn
    by_cases hlt : k < s.size
    · by_cases hc : ((s[k].toNat : Int) == c) = true
      · have HH : Hid (hasB s.data.toList c = true) := hasB_hit s c k hlt hc
        go_wp2
        go_ret
        exact ⟨ret_bool HH.out.symm, rfl⟩
      · have hc' : ((s[k].toNat : Int) == c) = false := by simpa using hc
        clear hc
        have HS : Hid (hasB (s.data.toList.take (k + 1)) c = false) := by
          show hasB _ _ = false
          rw [take_snoc s k hlt]
          have := HN.out
          unfold hasB at this ⊢
          rw [List.any_append, this]
          simp only [List.any_cons, List.any_nil, hc']; rfl
        go_wp2
        go_round
        case rel => exact ⟨k + 1, by omega, by go_num, HS.out⟩
        case measure => simp [intOf]; omega
    · go_wp2
      go_ret
      exact ⟨ret_bool (by have := HN.out; rw [List.take_of_length_le (by simp; omega)] at this; exact this.symm), rfl⟩

end Go.Proofs.Qxb6603031a
