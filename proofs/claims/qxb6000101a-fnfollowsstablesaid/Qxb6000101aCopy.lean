/-
  THE WALK of causalB1Copy.
-/
import Derived.Test.Qxb6000101aBytes
import Derived.Lib.SliceRun
namespace Go.Proofs.Qxb6000101a
open Go.RowKit Go.Maps Go.WideMaps

theorem info44 : (Try.prog.info? 44).map (fun i => (i.zero, i.size, i.bytes)) = some (some (.agg #[.string ⟨#[]⟩, .int .u64 0]), 2, 24) := by kernel_rfl
theorem slice22 : Try.prog.underlying 22 = some (.slice 44) := Try.underlying22

theorem copy_nil (w : World) : Calls Try.prog 13 #[.slice none 0 0] w fun e w' => e = .returned (.slice none 0 0) ∧ w' = w := by
  have hnil := fun wx => Lib.run_eql_slice_nil (P := Try.prog) (w := wx) 22 44 none 0 0 0 0 slice22
  go_enter Try.func13, Try.ntmps13
  go_wp2
  go_ret
  exact ⟨rfl, rfl⟩

set_option maxHeartbeats 1000000 in
theorem copy_any (a : Addr) (len cap B : Nat) (K : Nat → ByteArray) (S : Nat → Int) (w : World) (hlen : len ≤ 65536) (hB : B ≤ w.heap.size) (R : Row w B (some a) len K S) :
    Calls Try.prog 13 #[.slice (some a) len cap] w fun e w' => e = .returned (.slice (some ⟨w.heap.size, 0, none⟩) len len) ∧ Row w' w'.heap.size (some ⟨w.heap.size, 0, none⟩) len K S ∧ Below w.heap.size w w' := by
  obtain ⟨i44, hi, hz, hs, hby⟩ := info_parts info44
  have hml : maxLen = 9223372036854775807 := by decide
  have hnil := fun wx => Lib.run_eql_slice_nil (P := Try.prog) (w := wx) 22 44 (some a) len cap 0 0 slice22
  go_enter Try.func13, Try.ntmps13
  go_wp2_with (first
    | (at_make; refine wpList_make_full _ rfl _ _ _ rfl w.heap.size 44 i44 _ 2 slice22 hi hz hs .i64 .i64 _ _ len rfl rfl rfl rfl (by rw [hby]; omega) (by omega) (Nat.le_refl _) ?_; intro w0 hown0 hg0)
    | go_in)
  go_loopw [4] (fun i wr => ∃ (k : Nat) (xs : List Value), i = .int .i64 k ∧ k ≤ len ∧ wr.ownsRow w.heap.size 44 2 (.slice (some ⟨w.heap.size, 0, none⟩) len len) len xs ∧
      (∀ j, j < k → xs[j * 2]? = some (.string (K j)) ∧ xs[j * 2 + 1]? = some (.int .u64 (S j))) ∧ Below w.heap.size w wr) (fun i _ => len - (intOf i).toNat)
  case atStart => exact ⟨0, _, rfl, by omega, hown0, fun j hj => by omega, (Below.refl _ _).grown hg0 (Nat.le_refl _) (fun j hj => by cases hj)⟩
  case round =>
    obtain ⟨k, xs, rfl, hk, hown, hx, hbel⟩ := hrel
    by_cases hkl : k < len
    · obtain ⟨b, off, e, hb⟩ := R.some k hkl
      cases e
      have R' := R.below hbel hB
      have c0 := R'.key b off rfl k hkl
      have c1 := R'.seq b off rfl k hkl
      have hws : IntKind.i64.wrap ((k : Int) + 1) = ((k + 1 : Nat) : Int) := by rw [IntKind.wrap_i64]; omega
      obtain ⟨v0, e0⟩ : ∃ v, xs[k * 2]? = some v := ⟨xs[k * 2]'(by have := hown.1; omega), List.getElem?_eq_getElem _⟩
      obtain ⟨v1, e1⟩ : ∃ v, xs[k * 2 + 1]? = some v := ⟨xs[k * 2 + 1]'(by have := hown.1; omega), List.getElem?_eq_getElem _⟩
      have hst0 := hown.stored (k * 2) (.string (K k))
      have hst1 := hst0.1.stored (k * 2 + 1) (.int .u64 (S k))
      have f0 := hown.frozenAt (k * 2)
      have f1 := hst0.1.frozenAt (k * 2 + 1)
      have d0 := (hown.cellAt (k * 2) (by omega)).trans e0
      have d1 := (hst0.1.cellAt (k * 2 + 1) (by omega)).trans ((List.getElem?_set_ne (by omega)).trans e1)
      go_wp2
      go_roundw
      case rel =>
        refine ⟨k + 1, _, by simp, by omega, hst1.1, fun j hj => ?_, (hbel.setCell (Nat.le_refl _) _).setCell (Nat.le_refl _) _⟩
        have hl := hown.1
        by_cases hjk : j = k
        · subst hjk
          rw [List.getElem?_set_ne (by omega), List.getElem?_set_self (by omega), List.getElem?_set_self (by simp; omega)]
          exact ⟨rfl, rfl⟩
        · rw [List.getElem?_set_ne (by omega), List.getElem?_set_ne (by omega), List.getElem?_set_ne (by omega), List.getElem?_set_ne (by omega)]
          exact hx j (by omega)
      case measure => simp [intOf]; omega
    · go_wp2
      go_ret
      have hke : k = len := by omega
      subst hke
      have hlt := hown.lt w.heap.size rfl
      refine ⟨rfl, ⟨fun i hi => ⟨_, _, rfl, hlt.2⟩, fun b off e i hi => ?_, fun b off e i hi => ?_, R.wide⟩, hbel⟩
      · cases e
        rw [hown.cellAt _ (by omega), Nat.zero_add]
        exact (hx i hi).1
      · cases e
        rw [hown.cellAt _ (by omega), Nat.zero_add]
        exact (hx i hi).2

end Go.Proofs.Qxb6000101a
