/-
  THE WALK of causalB1Mk.
-/
import Derived.Test.Qxb6000101aCopy
namespace Go.Proofs.Qxb6000101a
open Go.RowKit Go.Maps Go.WideMaps

theorem mk_nil (w : World) : Calls Try.prog 14 #[.slice none 0 0] w fun e w' => e = .returned (.map none) ∧ w' = w := by
  have hnil := fun wx => Lib.run_eql_slice_nil (P := Try.prog) (w := wx) 22 44 none 0 0 0 0 slice22
  go_enter Try.func14, Try.ntmps14
  go_wp2
  go_ret
  exact ⟨rfl, rfl⟩

set_option maxHeartbeats 1000000 in
theorem mk_any (a : Addr) (len cap B : Nat) (K : Nat → ByteArray) (S : Nat → Int) (w : World) (hlen : len ≤ 65536) (hB : B ≤ w.heap.size) (R : Row w B (some a) len K S) :
    Calls Try.prog 14 #[.slice (some a) len cap] w fun e w' => e = .returned (.map (some w.heap.size)) ∧ (∃ D : DataW Unit, w'.ownsMap Try.prog 9 (plainElem Try.prog 33) w.heap.size len D ∧ ∀ k, Maps.has D k = true → ∃ i, i < len ∧ k = .string (K i).data.toList) ∧ Below w.heap.size w w' := by
  have hml : maxLen = 9223372036854775807 := by decide
  have hmm := @run_makeMap Try.prog
  have hnil := fun wx => Lib.run_eql_slice_nil (P := Try.prog) (w := wx) 22 44 (some a) len cap 0 0 slice22
  go_enter Try.func14, Try.ntmps14
  go_wp2
  go_loopw [4] (fun i wr => ∃ (k : Nat) (D : DataW Unit), i = .int .i64 k ∧ k ≤ len ∧ wr.ownsMap Try.prog 9 (plainElem Try.prog 33) w.heap.size k D ∧
      Hid (∀ kl, Maps.has D kl = true → ∃ i, i < k ∧ kl = .string (K i).data.toList) ∧ Below w.heap.size w wr) (fun i _ => len - (intOf i).toNat)
  case atStart => exact ⟨0, .map [], rfl, by omega, World.ownsMap_made _ _ _ _, (fun kl h => by cases h), (Below.refl _ _).alloc (Nat.le_refl _) _⟩
  case round =>
    obtain ⟨k, D, rfl, hk, hown, HD, hbel⟩ := hrel
    by_cases hkl : k < len
    · obtain ⟨b, off, e, hb⟩ := R.some k hkl
      cases e
      have R' := R.below hbel hB
      have c0 := R'.key b off rfl k hkl
      have c1 := R'.seq b off rfl k hkl
      have hws : IntKind.i64.wrap ((k : Int) + 1) = ((k + 1 : Nat) : Int) := by rw [IntKind.wrap_i64]; omega
      have hkw := R'.wide k hkl
      obtain ⟨w2, hrun, hown2, hg2⟩ := hown.drew.update law9 Try.underlying27 (by omega) (kl_of (K k) hkw.1) (plainElem_int Try.underlying33 hkw.2)
      go_wp2
      go_region
      go_wp2
      go_roundw
      case rel =>
        refine ⟨k + 1, _, by simp, by omega, hown2, fun kl h => ?_, hbel.drew.grown hg2 (show w.heap.size ≤ wr.heap.size from hbel.size) (fun j hj => by cases hj; exact Nat.le_refl _)⟩
        by_cases e : kl = .string (K k).data.toList
        · exact ⟨k, by omega, e⟩
        · rw [has_put_other e] at h
          obtain ⟨i, hi, hh⟩ := HD.out kl h
          exact ⟨i, by omega, hh⟩
      case measure => simp [intOf]; omega
    · go_wp2
      go_ret
      have hke : k = len := by omega
      subst hke
      exact ⟨rfl, ⟨D, hown, HD.out⟩, hbel⟩

end Go.Proofs.Qxb6000101a
