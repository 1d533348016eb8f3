/-
  THE WALK of the law FnWordRestIsBlankSuffix.
-/
import Derived.Test.Qxb6603031aWord
import Derived.Test.Qxb6603031aSuffix
namespace Go.Proofs.Qxb6603031a
open Go.RowKit

set_option maxHeartbeats 1000000 in
theorem zzword_any (s : ByteArray) (w : World) (hs : s.size ≤ 16777216) :
    Calls Try.prog 8 #[.string s] w fun e w' => WordPost s e ∧ Below w.heap.size w w' := by
  go_enter Try.func8, Try.ntmps8
  go_wp2_with (go_at_call 21; refine (word_any _ _ hs).mono ?_)
  rintro e w' ⟨hp, hb⟩
  rcases hp with ⟨v, r, rfl, hsw⟩ | ⟨rfl, hsw⟩
  · have HS : Hid (Pl.sw s.data.toList 0 = some (v.data.toList, r.data.toList)) := hsw
    clear hsw
    go_wp2
    go_ret3
    exact ⟨.inl ⟨v, r, rfl, HS.out⟩, hb⟩
  · have HS : Hid (Pl.sw s.data.toList 0 = none) := hsw
    clear hsw
    go_wp2
    go_ret3
    exact ⟨.inr ⟨rfl, HS.out⟩, hb⟩

theorem hasB_mem (l : List UInt8) (c : UInt8) (n : Int) (hn : (c.toNat : Int) = n) (h : c ∈ l) : hasB l n = true := by
  unfold hasB; rw [List.any_eq_true]; exact ⟨c, h, by rw [hn]; simp⟩

theorem suffix_at (s r : ByteArray) (u : List UInt8) (h : s.data.toList = u ++ r.data.toList) : u.length + r.size = s.size ∧ ∀ k (hk : k < r.size) (hb : u.length + k < s.size), s[u.length + k] = r[k] := by
  have hl : s.size = u.length + r.size := by
    have := congrArg List.length h
    simpa using this
  refine ⟨hl.symm, fun k hk hb => ?_⟩
  have e1 : s[u.length + k] = s.data.toList[u.length + k]'(by simpa using hb) := rfl
  have e2 : r[k] = r.data.toList[k]'(by simpa using hk) := rfl
  rw [e1, e2]
  simp only [h]
  rw [List.getElem_append_right (by omega)]
  simp

set_option maxHeartbeats 1000000 in
theorem restWalk (s : ByteArray) (w : World) :
    Calls Try.prog 4 #[.string s] w fun e w' => e = .returned (.bool true) ∧ Below w.heap.size w w' := by
  by_cases hs : s.size ≤ 1048576
  · have h1 : ¬ (1048576 : Int) < (s.size : Int) := by omega
    go_enter Try.func4, Try.ntmps4
    go_wp2_with (first | (go_at_call 10; refine (bytes10_yes _ _ hs).mono ?_; rintro e w' ⟨rfl, rfl⟩) | (go_at_call 8; refine (zzword_any _ _ (by omega)).mono ?_))
    rintro e w1 ⟨hp, hb⟩
    rcases hp with ⟨v, r, rfl, hsw⟩ | ⟨rfl, hsw⟩
    · obtain ⟨u, hu, hv, hr⟩ := Pl.sw_some _ 0 _ _ hsw (by omega)
      obtain ⟨hn, heq⟩ := suffix_at s r u hu
      simp only [Nat.zero_lt_succ, if_true] at hv
      have HR : Hid (r.data.toList = [] ∨ ∃ c t, r.data.toList = c :: t ∧ Pl.blank c = true) := hr
      have HQ : Hid (∀ k (hk : k < r.size) (hb : u.length + k < s.size), s[u.length + k] = r[k]) := heq
      have HN : Hid (u.length + r.size = s.size) := hn
      have hv2 : v.size ≤ u.length := by simpa using hv
      have hle : (v.size : Int) ≤ (s.size : Int) - (r.size : Int) := by omega
      clear hsw hu hv heq hn
      rcases hr with hr | ⟨c, t, hr, hc⟩
      · have hz : r.toList = [] := by rw [ByteArray.toList_eq]; exact hr
        clear hr HR
        go_wp2_with (go_at_call 12; refine (hasSuffix_yes _ _ u.length _ hs HN.out HQ.out).mono ?_)
        rintro e w2 ⟨rfl, m, rfl⟩
        go_wp2
        go_ret
        exact ⟨rfl, below_drewN hb m⟩
      · have hz : ¬ r.toList = [] := by rw [ByteArray.toList_eq, hr]; simp
        have h0 : 0 < r.size := by
          have := congrArg List.length hr
          simp at this; omega
        have hbl : Pl.blank r[0] = true := by
          have e2 : r[0] = r.data.toList[0]'(by simpa using h0) := rfl
          rw [e2]; simp only [hr]; exact hc
        clear hr hc HR
        go_wp2_with (go_at_call 12; refine (hasSuffix_yes _ _ u.length _ hs HN.out HQ.out).mono ?_)
        rintro e w2 ⟨rfl, m, rfl⟩
        go_wp2_with (go_at_call 13; refine (isBlank_any _ _).mono ?_; rintro e w' ⟨rfl, rfl⟩)
        go_ret
        exact ⟨rfl, below_drewN hb m⟩
    · rcases Pl.sw_none _ 0 hsw (.inl rfl) with h | h
      · have h39 : hasB s.data.toList 39 = true := hasB_mem _ 39 39 rfl h
        clear hsw h
        go_wp2_with (go_at_call 11; refine (contains_any _ _ _ (by unfold maxLen; omega)).mono ?_; rintro e w' ⟨rfl, rfl⟩)
        go_ret
        exact ⟨rfl, hb⟩
      · have h34 : hasB s.data.toList 34 = true := hasB_mem _ 34 34 rfl h
        clear hsw h
        by_cases h39 : hasB s.data.toList 39 = true
        · go_wp2_with (go_at_call 11; refine (contains_any _ _ _ (by unfold maxLen; omega)).mono ?_; rintro e w' ⟨rfl, rfl⟩)
          go_ret
          exact ⟨rfl, hb⟩
        · have h39' : hasB s.data.toList 39 = false := by simpa using h39
          clear h39
          go_wp2_with (go_at_call 11; refine (contains_any _ _ _ (by unfold maxLen; omega)).mono ?_; rintro e w' ⟨rfl, rfl⟩)
          go_ret
          exact ⟨rfl, hb⟩
  · have h1 : 1048576 < s.size := by omega
    go_enter Try.func4, Try.ntmps4
    go_wp2_with (go_at_call 10; refine (bytes10_no _ _ h1).mono ?_; rintro e w' ⟨rfl, rfl⟩)
    go_ret
    exact ⟨rfl, Below.refl _ _⟩

end Go.Proofs.Qxb6603031a
