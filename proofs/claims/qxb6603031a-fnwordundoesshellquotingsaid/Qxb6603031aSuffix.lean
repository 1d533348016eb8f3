/-
  THE WALK of hasSuffix at a true suffix.
-/
import Derived.Test.Qxb6603031aLeaf
import Derived.Deep.Draws
namespace Go.Proofs.Qxb6603031a
open Go.RowKit

set_option maxHeartbeats 1000000 in
theorem hasSuffix_yes (s r : ByteArray) (n : Nat) (w : World) (hs : s.size ≤ 1048576) (hn : n + r.size = s.size) (heq : ∀ k (hk : k < r.size) (hb : n + k < s.size), s[n + k] = r[k]) :
    Calls Try.prog 12 #[.string s, .string r] w fun e w' => e = .returned (.bool true) ∧ ∃ m, w' = w.drewN m := by
  have HN : Hid (n + r.size = s.size) := hn
  have h1 : r.size ≤ s.size := by omega
  have h2 : (s.size : Int) - (r.size : Int) = (n : Int) := by omega
  have HQ : Hid (∀ k (hk : k < r.size) (hb : n + k < s.size), s[n + k] = r[k]) := heq
  clear heq hn
  go_enter Try.func12, Try.ntmps12
  go_wp2
  go_loopw [6] (fun i wr => ∃ k m : Nat, k ≤ r.size ∧ i = .int .i64 k ∧ wr = w.drewN m) (fun i _ => r.size - (intOf i).toNat)
  case atStart => exact ⟨0, 0, Nat.zero_le _, rfl, rfl⟩
  case round =>
    obtain ⟨k, m, hk, rfl, rfl⟩ := hrel
    by_cases hlt : k < r.size
    · have hb : n + k < s.size := by have := HN.out; omega
      have hne : (((s[n + k].toNat : Nat) : Int) != (r[k].toNat : Int)) = false := by
        have := HQ.out k hlt hb
        rw [this]; simp
      have hw : IntKind.i64.wrap ((n : Int) + (k : Int)) = ((n + k : Nat) : Int) := by rw [IntKind.wrap_i64]; omega
      have hb2 : (n : Int) + (k : Int) < (s.size : Int) := by omega
      have hb0 : 0 ≤ (n : Int) + (k : Int) := by omega
      have ht : ((n : Int) + (k : Int)).toNat = n + k := by omega
      have hb3 : (k : Int) < (r.size : Int) := by omega
      go_wp2_with fail
      go_quiet (fail)
      go_wp2
      go_roundw
      case rel => exact ⟨k + 1, _, by omega, by go_num, rfl⟩
      case measure => simp [intOf]; omega
    · go_wp2
      go_ret
      exact ⟨rfl, m, rfl⟩

end Go.Proofs.Qxb6603031a
