/-
  THE WALK of the law FnWordMatchesAutomaton.
-/
import Derived.Test.Qxb6603031aModel
namespace Go.Proofs.Qxb6603031a
open Go.RowKit

set_option maxHeartbeats 400000 in
theorem bytes7_yes (s : ByteArray) (w : World) (h : s.size ≤ 1048576) :
    Calls Try.prog 7 #[.string s] w fun e w' => e = .returned (.bool true) ∧ w' = w := by
  have h1 : ¬ (1048576 : Int) < (s.size : Int) := by omega
  go_enter Try.func7, Try.ntmps7
  go_wp2
  go_ret
  exact ⟨rfl, rfl⟩

set_option maxHeartbeats 400000 in
theorem bytes7_no (s : ByteArray) (w : World) (h : 1048576 < s.size) :
    Calls Try.prog 7 #[.string s] w fun e w' => e = .returned (.bool false) ∧ w' = w := by
  have h1 : (1048576 : Int) < (s.size : Int) := by omega
  go_enter Try.func7, Try.ntmps7
  go_wp2
  go_ret
  exact ⟨rfl, rfl⟩

theorem bytes_ext (a b : ByteArray) (h : a.data.toList = b.data.toList) : a = b := by
  obtain ⟨⟨x⟩⟩ := a
  obtain ⟨⟨y⟩⟩ := b
  simp at h
  rw [h]

set_option maxHeartbeats 1000000 in
theorem matchWalk (s : ByteArray) (w : World) :
    Calls Try.prog 3 #[.string s] w fun e w' => e = .returned (.bool true) ∧ Below w.heap.size w w' := by
  by_cases hs : s.size ≤ 1048576
  · have h1 : ¬ (1048576 : Int) < (s.size : Int) := by omega
    go_enter Try.func3, Try.ntmps3
    go_wp2_with (first | (go_at_call 7; refine (bytes7_yes _ _ hs).mono ?_; rintro e w' ⟨rfl, rfl⟩) | (go_at_call 8; refine (zzword_any _ _ (by omega)).mono ?_))
    rintro e w1 ⟨hp, hb⟩
    rcases hp with ⟨v, r, rfl, hsw⟩ | ⟨rfl, hsw⟩
    · have HS : Hid (Pl.sw s.data.toList 0 = some (v.data.toList, r.data.toList)) := hsw
      clear hsw
      go_wp2_with (go_at_call 9; refine (model_any _ _ (by omega)).mono ?_)
      rintro e w2 ⟨hp2, hb2⟩
      rcases hp2 with ⟨v2, r2, rfl, hsw2⟩ | ⟨rfl, hsw2⟩
      · rw [HS.out] at hsw2
        simp only [Option.some.injEq, Prod.mk.injEq] at hsw2
        obtain rfl := bytes_ext _ _ hsw2.1
        obtain rfl := bytes_ext _ _ hsw2.2
        clear hsw2
        have hb3 : Below w'.heap.size w1 w2 := hb2.mono hb.size
        go_wp2
        go_ret
        exact ⟨rfl, hb.trans hb3⟩
      · rw [HS.out] at hsw2; cases hsw2
    · have HS : Hid (Pl.sw s.data.toList 0 = none) := hsw
      clear hsw
      go_wp2_with (go_at_call 9; refine (model_any _ _ (by omega)).mono ?_)
      rintro e w2 ⟨hp2, hb2⟩
      rcases hp2 with ⟨v2, r2, rfl, hsw2⟩ | ⟨rfl, hsw2⟩
      · rw [HS.out] at hsw2; cases hsw2
      · clear hsw2
        have hb3 : Below w'.heap.size w1 w2 := hb2.mono hb.size
        go_wp2
        go_ret
        exact ⟨rfl, hb.trans hb3⟩
  · have h1 : 1048576 < s.size := by omega
    go_enter Try.func3, Try.ntmps3
    go_wp2_with (go_at_call 7; refine (bytes7_no _ _ h1).mono ?_; rintro e w' ⟨rfl, rfl⟩)
    go_ret
    exact ⟨rfl, Below.refl _ _⟩

end Go.Proofs.Qxb6603031a
