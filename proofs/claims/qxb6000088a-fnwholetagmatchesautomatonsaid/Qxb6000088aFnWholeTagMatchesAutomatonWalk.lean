/-
  THE WALK of the law FnWholeTagMatchesAutomaton.
-/
import Derived.Test.Qxb6000088aWholeB
namespace Go.Proofs.Qxb6000088a
open Go.RowKit

theorem whole_any (g : Nat) (s : ByteArray) (w : World) (hs : s.size ≤ 1048576) (h0 : 0 < s.size) (hc : Lib.Bytes w g 0 s) :
    Calls Try.prog 20 #[.slice (some ⟨g, 0, none⟩) s.size s.size] w fun e w' => e = .returned (.int .i64 (Pl.ans s : Int)) ∧ w' = w := by
  by_cases h1 : 1 < s.size
  · by_cases e : s[1] = 47
    · by_cases hl : ∃ h2 : 2 < s.size, Pl.letter s[2] = true
      · obtain ⟨h2, hl⟩ := hl
        exact whole_close g s w hs h2 hc e hl
      · refine whole_close_bad g s w hs h1 hc e fun h2 => ?_
        cases hb : Pl.letter s[2]
        · rfl
        · exact absurd ⟨h2, hb⟩ hl
    · cases hl : Pl.letter s[1]
      · exact whole_noname g s w hs h1 hc e hl
      · exact whole_open g s w hs h1 hc e hl
  · exact whole_short g s w (by omega)

set_option maxHeartbeats 1000000 in
theorem zzwhole_any (g : Nat) (s : ByteArray) (w : World) (hs : s.size ≤ 1048576) (h0 : 0 < s.size) (hc : Lib.Bytes w g 0 s) :
    Calls Try.prog 10 #[.slice (some ⟨g, 0, none⟩) s.size s.size] w fun e w' => e = .returned (.int .i64 (Pl.ans s : Int)) ∧ w' = w := by
  go_enter Try.func10, Try.ntmps10
  go_wp2_with (go_at_call 20; refine (whole_any g s _ hs h0 hc).mono ?_; rintro e w' ⟨rfl, rfl⟩)
  go_ret
  exact ⟨rfl, rfl⟩

theorem cell_lt {w : World} {a : Addr} {v : Value} (h : w.cell? a = some v) : a.block < w.heap.size := by
  rcases Nat.lt_or_ge a.block w.heap.size with h' | h'
  · exact h'
  · simp [World.cell?, Array.getElem?_eq_none h'] at h
theorem add_block (a : Addr) (i : Nat) : (a.add i).block = a.block := by cases a; simp [Addr.add]; split <;> rfl

theorem nums_bytes (zs : List Int) (h : ∀ n ∈ zs, (Lit.int .u8 n).wf = true) (i : Nat) (hi : i < zs.length) : ((UInt8.ofNat (zs[i]).toNat).toNat : Int) = zs.getD i 0 := by
  have hw := h zs[i] (List.getElem_mem hi)
  have hb : 0 ≤ zs[i] ∧ zs[i] < 256 := by
    have m1 : IntKind.u8.min = 0 := by decide
    have m2 : IntKind.u8.max = 255 := by decide
    simp [Lit.wf, m1, m2] at hw
    omega
  have e : zs.getD i 0 = zs[i] := by simp [List.getD, hi]
  rw [e]
  simp
  omega

set_option maxHeartbeats 1000000 in
theorem tagWalk (a0 : Option Addr) (len0 cap0 : Nat) (zs : List Int) (w : World)
    (w0 : (a0 = none ∧ len0 = 0 ∧ cap0 = 0 ∧ zs = []) ∨ ∃ x, a0 = some x ∧ len0 ≤ cap0 ∧ cap0 ≤ maxLen ∧ zs.length = cap0 ∧ (∀ i, i < zs.length → w.cell? (x.add i) = some (.int .u8 (zs.getD i 0))) ∧ ∀ n ∈ zs, (Lit.int .u8 n).wf = true) :
    Calls Try.prog 3 #[.slice a0 len0 cap0] w fun e w' => e = .returned (.bool true) ∧ Below w.heap.size w w' := by
  by_cases hs : len0 ≤ 1048576
  · have h1 : ¬ (1048576 : Int) < (len0 : Int) := by omega
    by_cases hz : len0 = 0
    · have n0 : ((len0 : Int) == 0) = true := by simp; omega
      clear w0
      subst hz
      go_enter Try.func3, Try.ntmps3
      go_wp2_with (go_at_call 8; refine (bytes8_yes _ _ _ _ (by omega)).mono ?_; rintro e w' ⟨rfl, rfl⟩)
      go_ret
      exact ⟨rfl, Below.refl _ _⟩
    · rcases w0 with ⟨_, h, _⟩ | ⟨x, rfl, hlc, hcm, hzl, hcell, hwf⟩
      · exact absurd h hz
      · have hxb : x.block < w.heap.size := by
          have h := cell_lt (hcell 0 (by omega))
          rwa [add_block] at h
        obtain ⟨s, hsz, hsc⟩ : ∃ s : ByteArray, s.size = len0 ∧ ∀ i (h : i < s.size), w.cell? (x.add i) = some (.int .u8 (s[i].toNat : Int)) := by
          refine ⟨⟨((zs.take len0).map fun n => UInt8.ofNat n.toNat).toArray⟩, by simp [ByteArray.size]; omega, fun i h => ?_⟩
          have hi : i < len0 := by simp [ByteArray.size] at h; omega
          rw [hcell i (by omega), ← nums_bytes zs hwf i (by omega)]
          congr 2
          have e : (⟨((zs.take len0).map fun n => UInt8.ofNat n.toNat).toArray⟩ : ByteArray)[i] = ((zs.take len0).map fun n => UInt8.ofNat n.toNat)[i]'(by simp; omega) := rfl
          rw [e]
          simp
        subst hsz
        have n0 : ((s.size : Int) == 0) = false := by rw [beq_eq_false_iff_ne]; omega
        have H9 := clone_any x cap0 s w hs hxb hsc
        have H9' : Hid (Calls Try.prog 9 #[.slice (some x) s.size cap0] w fun e w' => e = .returned (.slice (some ⟨w.heap.size, 0, none⟩) s.size s.size) ∧ Lib.Bytes w' w.heap.size 0 s ∧ Below w.heap.size w w') := H9
        clear H9 hcell hwf hsc hzl
        go_enter Try.func3, Try.ntmps3
        go_wp2_with (first | (go_at_call 8; refine (bytes8_yes _ _ _ _ hs).mono ?_; rintro e w' ⟨rfl, rfl⟩) | (go_at_call 9; refine H9'.out.mono ?_))
        rintro e w2 ⟨rfl, hc, hb⟩
        go_wp2_with (first | (go_at_call 10; refine (zzwhole_any _ s _ hs (by omega) hc).mono ?_; rintro e w' ⟨rfl, rfl⟩) | (go_at_call 11; refine (model_any _ s _ hs hc).mono ?_; rintro e w' ⟨rfl, rfl⟩))
        go_ret
        exact ⟨rfl, hb⟩
  · have h1 : 1048576 < len0 := by omega
    clear w0
    go_enter Try.func3, Try.ntmps3
    go_wp2_with (go_at_call 8; refine (bytes8_no _ _ _ _ h1).mono ?_; rintro e w' ⟨rfl, rfl⟩)
    go_ret
    exact ⟨rfl, Below.refl _ _⟩

end Go.Proofs.Qxb6000088a
